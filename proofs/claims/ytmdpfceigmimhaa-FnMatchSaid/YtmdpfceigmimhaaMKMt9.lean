/-
  Does a matcher match? As the package tells.
-/
import Derived.Test.YtmdpfceigmimhaaMKMt8
namespace Go.V
open Go.RowKit
set_option linter.unusedVariables false
set_option linter.unusedSimpArgs false
set_option maxRecDepth 10000
attribute [local irreducible] Run Ops
section
variable {P : Program} {n : Nat} {C : Cx} {env : Env} {L : Own} {I : Imm}
variable {ty : TypeId} {ps : String} {af : Array Edge} {g : Option (Nat × Bool)} {d : Nat} {K : Value → Own → Imm → Prop}
/-- a call of a function value that holds something, handed blocks -/
theorem Eff.callVM {f : FuncId} {x : Operand} {xs : List Operand} {ats : Array TypeId} {ws vs : List Value} {M N : Own} {R : Value → Imm → Own → Prop} (hs : Spec P f (vs ++ ws) I M R) (hL : L.Perm (M ++ N)) (hc : ∀ args w, (callFunc f args).run P w = .ok (.enter f args) w)
    (hf : opnd env x = some (.func (.func f) #[] ws.toArray)) (hx : opnds env xs = some vs) (next : ∀ v J M', Le I J → R v J M' → K v (M' ++ N) J) : Eff P n C env L I ⟨some d, .call ⟨.value x, xs.toArray, ats⟩, ty, ps, af, g⟩ K :=
  Eff.callW (fun a W he => run_callV (fs := []) hc he hf hx) hL (by simpa using hs) next
end
/-- what a matcher says -/
def mtSays (m : Mt) (d : Ds) : Bool :=
  if m.kind = 0 then annIs m.key m.value d.anns else if m.kind = 1 then decide (d.dig ∈ m.digs) else if m.kind = 2 then decide (d.media ∈ m.media)
  else if m.kind = 3 then annIs refName m.value d.anns else match d.plats with
    | [] => false
    | x :: _ => anyP x.1 x.2.1 x.2.2 m.plats
theorem match_Platforms1n (I : Imm) (b : Nat) (media : List UInt8) (size : Int) (dig : K2) (A : Option Addr) (n c : Nat) (A' : Option Addr) (n' c' : Nat) (am : Option Nat) (art : List UInt8) :
    Pure Proofs.Try.prog 87 [.agg (vd media size dig (.slice A n c) (.slice A' n' c') (.map am) (.pointer none) art).toArray, .pointer (some ⟨b, 0, none⟩)] I fun r J => r = .bool false := by
  refine Spec.enter 22 [(0, _), (1, _)] Proofs.Try.func87 rfl Proofs.Try.ntmps87 (by simp) rfl ?_
  intro C hCf hR hCI
  repeat (first | refine Run.seq ?_ | refine Run.region ?_ | refine Ops.nil ?_ | refine Run.skip ?_ | refine Run.block ?_ | refine Run.inBlock ?_ | refine Run.exit rfl ?_ | refine Run.cond_t rfl ?_ | refine Run.cond_f rfl ?_ | refine Ops.add rfl (by decide) rfl rfl (wI (by first | omega | (simp only [List.length_cons, List.length_nil] ; omega) | (simp; omega)) (by first | omega | (simp only [List.length_cons, List.length_nil] ; omega) | (simp; omega))) ?_ | refine Ops.eqlNil T rfl (by decide) rfl rfl rfl rfl rfl ?_ | refine Ops.lss rfl (by decide) rfl rfl ?_ | refine Ops.pure T rfl (by decide) rfl ?_ | refine Ops.load 0 rfl (by decide) rfl rfl (T.aggOk rfl) rfl ?_ | refine Ops.load 1 rfl (by decide) rfl rfl (T.aggOk rfl) rfl ?_ | refine Ops.load 2 rfl (by decide) rfl rfl (T.aggOk rfl) rfl ?_ | refine Ops.load 3 rfl (by decide) rfl rfl (T.aggOk rfl) rfl ?_ | refine Ops.load 4 rfl (by decide) rfl rfl (T.aggOk rfl) rfl ?_ | refine Ops.load 5 rfl (by decide) rfl rfl (T.aggOk rfl) rfl ?_ | refine Ops.loadN 0 rfl (by decide) rfl rfl (T.aggOk rfl) (T.sizeOk rfl) rfl rfl ?_ | refine Ops.loadN 1 rfl (by decide) rfl rfl (T.aggOk rfl) (T.sizeOk rfl) rfl rfl ?_ | refine Ops.loadN 2 rfl (by decide) rfl rfl (T.aggOk rfl) (T.sizeOk rfl) rfl rfl ?_ | refine Ops.loadN 3 rfl (by decide) rfl rfl (T.aggOk rfl) (T.sizeOk rfl) rfl rfl ?_ | refine Ops.loadN 4 rfl (by decide) rfl rfl (T.aggOk rfl) (T.sizeOk rfl) rfl rfl ?_ | refine Ops.loadN 5 rfl (by decide) rfl rfl (T.aggOk rfl) (T.sizeOk rfl) rfl rfl ?_ | refine Ops.store 0 rfl rfl rfl rfl rfl (T.sizeOk rfl) rfl (Nat.le_of_ble_eq_true rfl) rfl rfl ?_ | refine Ops.store 1 rfl rfl rfl rfl rfl (T.sizeOk rfl) rfl (Nat.le_of_ble_eq_true rfl) rfl rfl ?_ | refine Ops.store 2 rfl rfl rfl rfl rfl (T.sizeOk rfl) rfl (Nat.le_of_ble_eq_true rfl) rfl rfl ?_ | refine Ops.store 3 rfl rfl rfl rfl rfl (T.sizeOk rfl) rfl (Nat.le_of_ble_eq_true rfl) rfl rfl ?_ | refine Ops.store 4 rfl rfl rfl rfl rfl (T.sizeOk rfl) rfl (Nat.le_of_ble_eq_true rfl) rfl rfl ?_ | refine Ops.store 5 rfl rfl rfl rfl rfl (T.sizeOk rfl) rfl (Nat.le_of_ble_eq_true rfl) rfl rfl ?_)
  refine Ops.box rfl (by decide) rfl rfl (fun b5 => ?_)
  repeat (first | refine Run.seq ?_ | refine Run.region ?_ | refine Ops.nil ?_ | refine Run.skip ?_ | refine Run.block ?_ | refine Run.inBlock ?_ | refine Run.exit rfl ?_ | refine Run.cond_t rfl ?_ | refine Run.cond_f rfl ?_ | refine Ops.add rfl (by decide) rfl rfl (wI (by first | omega | (simp only [List.length_cons, List.length_nil] ; omega) | (simp; omega)) (by first | omega | (simp only [List.length_cons, List.length_nil] ; omega) | (simp; omega))) ?_ | refine Ops.eqlNil T rfl (by decide) rfl rfl rfl rfl rfl ?_ | refine Ops.lss rfl (by decide) rfl rfl ?_ | refine Ops.pure T rfl (by decide) rfl ?_ | refine Ops.load 0 rfl (by decide) rfl rfl (T.aggOk rfl) rfl ?_ | refine Ops.load 1 rfl (by decide) rfl rfl (T.aggOk rfl) rfl ?_ | refine Ops.load 2 rfl (by decide) rfl rfl (T.aggOk rfl) rfl ?_ | refine Ops.load 3 rfl (by decide) rfl rfl (T.aggOk rfl) rfl ?_ | refine Ops.load 4 rfl (by decide) rfl rfl (T.aggOk rfl) rfl ?_ | refine Ops.load 5 rfl (by decide) rfl rfl (T.aggOk rfl) rfl ?_ | refine Ops.loadN 0 rfl (by decide) rfl rfl (T.aggOk rfl) (T.sizeOk rfl) rfl rfl ?_ | refine Ops.loadN 1 rfl (by decide) rfl rfl (T.aggOk rfl) (T.sizeOk rfl) rfl rfl ?_ | refine Ops.loadN 2 rfl (by decide) rfl rfl (T.aggOk rfl) (T.sizeOk rfl) rfl rfl ?_ | refine Ops.loadN 3 rfl (by decide) rfl rfl (T.aggOk rfl) (T.sizeOk rfl) rfl rfl ?_ | refine Ops.loadN 4 rfl (by decide) rfl rfl (T.aggOk rfl) (T.sizeOk rfl) rfl rfl ?_ | refine Ops.loadN 5 rfl (by decide) rfl rfl (T.aggOk rfl) (T.sizeOk rfl) rfl rfl ?_ | refine Ops.store 0 rfl rfl rfl rfl rfl (T.sizeOk rfl) rfl (Nat.le_of_ble_eq_true rfl) rfl rfl ?_ | refine Ops.store 1 rfl rfl rfl rfl rfl (T.sizeOk rfl) rfl (Nat.le_of_ble_eq_true rfl) rfl rfl ?_ | refine Ops.store 2 rfl rfl rfl rfl rfl (T.sizeOk rfl) rfl (Nat.le_of_ble_eq_true rfl) rfl rfl ?_ | refine Ops.store 3 rfl rfl rfl rfl rfl (T.sizeOk rfl) rfl (Nat.le_of_ble_eq_true rfl) rfl rfl ?_ | refine Ops.store 4 rfl rfl rfl rfl rfl (T.sizeOk rfl) rfl (Nat.le_of_ble_eq_true rfl) rfl rfl ?_ | refine Ops.store 5 rfl rfl rfl rfl rfl (T.sizeOk rfl) rfl (Nat.le_of_ble_eq_true rfl) rfl rfl ?_)
  refine Run.fin (Run.ret1 (by rw [hCf]; exact Proofs.Try.func87) Proofs.Try.results87 rfl (hR _ _ _ ?_))
  exact ⟨rfl, rfl⟩
set_option maxHeartbeats 2000000 in
theorem impl_MatchTells (hs : ∀ a b : Txts, a.Perm b → sorted a = sorted b) (I : Imm) (m : Mt) (d : Ds) (A1 : Option Addr) (n1 c1 : Nat) (A2 : Option Addr) (n2 c2 : Nat) (A3 : Option Addr) (n3 c3 : Nat) (B1 : Option Addr) (k1 a1 : Nat) (B2 : Option Addr) (k2 a2 : Nat) (B3 : Option Addr) (k3 a3 : Nat)
    (hm : MtL I m (.slice A1 n1 c1) (.slice A2 n2 c2) (.slice A3 n3 c3)) (hfm : fitM m) (hd : DsL I d (.slice B1 k1 a1) (.slice B2 k2 a2) (.slice B3 k3 a3)) (hfd : fitD d) (hk : 0 ≤ m.kind ∧ m.kind ≤ 4) (hmed : m.kind = 2 → d.media ≠ []) :
    Pure Proofs.Try.prog 32 [.agg (m.cs (.slice A1 n1 c1) (.slice A2 n2 c2) (.slice A3 n3 c3)).toArray, .agg (d.cs (.slice B1 k1 a1) (.slice B2 k2 a2) (.slice B3 k3 a3)).toArray] I fun w J => w = .bool (mtSays m d) := by
  refine Spec.enter 10 [(0, _), (1, _)] Proofs.Try.func32 rfl Proofs.Try.ntmps32 (by simp) rfl ?_
  intro C hCf hR hCI
  repeat (first | refine Run.seq ?_ | refine Run.region ?_ | refine Ops.nil ?_ | refine Ops.pure T rfl (by decide) rfl ?_ | refine Ops.loadN 0 rfl (by decide) rfl rfl (T.aggOk rfl) (T.sizeOk rfl) rfl rfl ?_ | refine Ops.loadN 1 rfl (by decide) rfl rfl (T.aggOk rfl) (T.sizeOk rfl) rfl rfl ?_ | refine Ops.loadN 2 rfl (by decide) rfl rfl (T.aggOk rfl) (T.sizeOk rfl) rfl rfl ?_ | refine Ops.loadN 3 rfl (by decide) rfl rfl (T.aggOk rfl) (T.sizeOk rfl) rfl rfl ?_ | refine Ops.loadN 4 rfl (by decide) rfl rfl (T.aggOk rfl) (T.sizeOk rfl) rfl rfl ?_ | refine Ops.loadN 5 rfl (by decide) rfl rfl (T.aggOk rfl) (T.sizeOk rfl) rfl rfl ?_)
  refine Ops.box rfl (by decide) rfl rfl (fun b1 => ?_)
  refine Ops.box rfl (by decide) rfl rfl (fun b2 => ?_)
  repeat (first | refine Run.seq ?_ | refine Run.region ?_ | refine Ops.nil ?_ | refine Ops.pure T rfl (by decide) rfl ?_ | refine Ops.loadN 0 rfl (by decide) rfl rfl (T.aggOk rfl) (T.sizeOk rfl) rfl rfl ?_ | refine Ops.loadN 1 rfl (by decide) rfl rfl (T.aggOk rfl) (T.sizeOk rfl) rfl rfl ?_ | refine Ops.loadN 2 rfl (by decide) rfl rfl (T.aggOk rfl) (T.sizeOk rfl) rfl rfl ?_ | refine Ops.loadN 3 rfl (by decide) rfl rfl (T.aggOk rfl) (T.sizeOk rfl) rfl rfl ?_ | refine Ops.loadN 4 rfl (by decide) rfl rfl (T.aggOk rfl) (T.sizeOk rfl) rfl rfl ?_ | refine Ops.loadN 5 rfl (by decide) rfl rfl (T.aggOk rfl) (T.sizeOk rfl) rfl rfl ?_)
  refine Run.regionAny (Holds I [(b2, blk (d.cs (.slice B1 k1 a1) (.slice B2 k2 a2) (.slice B3 k3 a3)) 54), (b1, blk (m.cs (.slice A1 n1 c1) (.slice A2 n2 c2) (.slice A3 n3 c3)) 49)]) (bl 6 0) (by kernel_rfl) (by kernel_rfl) ?_
  first | refine RAny.tk 0 (bl 6 1) rfl (by kernel_rfl) (by decide) (fun W h => h.holds (Le.refl _) (by first | exact mp rfl | exact mq rfl)) (Yld.loadN 0 T rfl rfl rfl rfl rfl rfl rfl) ?_ | refine RAny.tk 0 (bl 6 1) rfl (by kernel_rfl) (by decide) (fun W h => h.holds (Le.refl _) (by first | exact mp rfl | exact mq rfl)) (Yld.loadN 1 T rfl rfl rfl rfl rfl rfl rfl) ?_ | refine RAny.tk 0 (bl 6 1) rfl (by kernel_rfl) (by decide) (fun W h => h.holds (Le.refl _) (by first | exact mp rfl | exact mq rfl)) (Yld.loadN 2 T rfl rfl rfl rfl rfl rfl rfl) ?_
  first | refine RAny.tk 2 (bl 6 5) rfl (by kernel_rfl) (by decide) (fun W h => h.holds (Le.refl _) (by first | exact mp rfl | exact mq rfl)) (Yld.loadN 0 T rfl rfl rfl rfl rfl rfl rfl) ?_ | refine RAny.tk 2 (bl 6 5) rfl (by kernel_rfl) (by decide) (fun W h => h.holds (Le.refl _) (by first | exact mp rfl | exact mq rfl)) (Yld.loadN 1 T rfl rfl rfl rfl rfl rfl rfl) ?_ | refine RAny.tk 2 (bl 6 5) rfl (by kernel_rfl) (by decide) (fun W h => h.holds (Le.refl _) (by first | exact mp rfl | exact mq rfl)) (Yld.loadN 2 T rfl rfl rfl rfl rfl rfl rfl) ?_
  refine RAny.on 1 (bl 6 7) rfl (by kernel_rfl) rfl (by decide) (Eff.callM (M := []) (Match_to I m _ _ _ _ _ _ _ _ _ hm hfm hk) (.refl _) Proofs.Try.call57 rfl fun x1 J1 P1 l1 hx1 => ⟨fun W h => h.holds l1 (fun _ h => List.mem_append_right _ h), ?_⟩)
  refine RAny.on 3 (bl 6 15) rfl (by kernel_rfl) rfl (by decide) (Eff.callM (M := []) (Descriptor_to J1 d _ _ _ _ _ _ _ _ _ (hd.mono l1) hfd) (.refl _) Proofs.Try.call58 rfl fun x2 J2 P2 l2 hx2 => ⟨fun W h => h.holds (l1.trans l2) (fun _ h => List.mem_append_right _ (List.mem_append_right _ h)), ?_⟩)
  have l := l1.trans l2
  obtain ⟨A, n, c, A', n', c', am, q, rfl, hpm, hq⟩ := hx2
  refine RAny.perm (L' := (P2 ++ P1) ++ [_, _]) (by rw [List.append_assoc]; exact .refl _) ?_
  rcases hx1 with ⟨hk0, rfl, e1, e2, rfl, g1, g2⟩ | ⟨hk1, rfl, e1, e2, o, mp, rfl, g1, g2, g3, g4⟩ | ⟨hk2, rfl, e1, e2, o, mp, rfl, g1, g2, g3, g4⟩ | ⟨hk3, rfl, e1, e2, rfl, g1, g2⟩ | ⟨hk4, e1, v, rs, rfl, g1, g2, g3⟩
  · skip
    skip
    refine RAny.on 4 (bl 6 31) rfl (by kernel_rfl) rfl (by decide) (Eff.callVM (vs := [_]) (M := []) (ws := [_, _]) (match_Annotation1 J2 m.key m.value d.anns e1 e2 d.media d.size d.dig A n c A' n' c' (.map am) q d.art (l2 _ _ g1) (l2 _ _ g2) hpm) (.refl _) Proofs.Try.call84 rfl rfl fun y J3 P3 l3 hy => ⟨fun W h => h.holds (l.trans l3) (fun _ h => List.mem_append_right _ (List.mem_append_right _ h)), ?_⟩)
    obtain ⟨rfl, hy⟩ := hy
    skip
    subst hy
    refine RAny.tk 5 (bl 6 63) rfl (by kernel_rfl) (by decide) (fun W h => h.holds (l.trans l3) (fun _ h => by first | exact List.mem_append_right _ h | exact List.mem_append_right _ (List.mem_append_right _ h))) (Yld.eval T rfl rfl) ?_
    refine RAny.done _ (by kernel_rfl) ?_
    repeat (first | refine Run.seq ?_ | refine Run.region ?_ | refine Ops.nil ?_ | refine Ops.pure T rfl (by decide) rfl ?_ | refine Ops.loadN 0 rfl (by decide) rfl rfl (T.aggOk rfl) (T.sizeOk rfl) rfl rfl ?_ | refine Ops.loadN 1 rfl (by decide) rfl rfl (T.aggOk rfl) (T.sizeOk rfl) rfl rfl ?_ | refine Ops.loadN 2 rfl (by decide) rfl rfl (T.aggOk rfl) (T.sizeOk rfl) rfl rfl ?_ | refine Ops.loadN 3 rfl (by decide) rfl rfl (T.aggOk rfl) (T.sizeOk rfl) rfl rfl ?_ | refine Ops.loadN 4 rfl (by decide) rfl rfl (T.aggOk rfl) (T.sizeOk rfl) rfl rfl ?_ | refine Ops.loadN 5 rfl (by decide) rfl rfl (T.aggOk rfl) (T.sizeOk rfl) rfl rfl ?_)
    refine Run.fin (Run.ret1 (by rw [hCf]; exact Proofs.Try.func32) Proofs.Try.results32 rfl (hR _ _ _ ?_))
    exact ⟨rfl, by simp [mtSays, hk0]⟩
    skip
  · skip
    skip
    refine RAny.on 4 (bl 6 31) rfl (by kernel_rfl) rfl (by decide) (Eff.callVM (vs := [_]) (M := []) (ws := [_]) (match_Digests1 J2 m.digs e1 e2 o mp d.media d.size d.dig A n c A' n' c' am q d.art (l2 _ _ g1) (l2 _ _ g2) g3 g4) (.refl _) Proofs.Try.call85 rfl rfl fun y J3 P3 l3 hy => ⟨fun W h => h.holds (l.trans l3) (fun _ h => List.mem_append_right _ (List.mem_append_right _ h)), ?_⟩)
    obtain ⟨rfl, hy⟩ := hy
    skip
    subst hy
    refine RAny.tk 5 (bl 6 63) rfl (by kernel_rfl) (by decide) (fun W h => h.holds (l.trans l3) (fun _ h => by first | exact List.mem_append_right _ h | exact List.mem_append_right _ (List.mem_append_right _ h))) (Yld.eval T rfl rfl) ?_
    refine RAny.done _ (by kernel_rfl) ?_
    repeat (first | refine Run.seq ?_ | refine Run.region ?_ | refine Ops.nil ?_ | refine Ops.pure T rfl (by decide) rfl ?_ | refine Ops.loadN 0 rfl (by decide) rfl rfl (T.aggOk rfl) (T.sizeOk rfl) rfl rfl ?_ | refine Ops.loadN 1 rfl (by decide) rfl rfl (T.aggOk rfl) (T.sizeOk rfl) rfl rfl ?_ | refine Ops.loadN 2 rfl (by decide) rfl rfl (T.aggOk rfl) (T.sizeOk rfl) rfl rfl ?_ | refine Ops.loadN 3 rfl (by decide) rfl rfl (T.aggOk rfl) (T.sizeOk rfl) rfl rfl ?_ | refine Ops.loadN 4 rfl (by decide) rfl rfl (T.aggOk rfl) (T.sizeOk rfl) rfl rfl ?_ | refine Ops.loadN 5 rfl (by decide) rfl rfl (T.aggOk rfl) (T.sizeOk rfl) rfl rfl ?_)
    refine Run.fin (Run.ret1 (by rw [hCf]; exact Proofs.Try.func32) Proofs.Try.results32 rfl (hR _ _ _ ?_))
    exact ⟨rfl, by simp [mtSays, hk1]⟩
    skip
  · skip
    skip
    refine RAny.on 4 (bl 6 31) rfl (by kernel_rfl) rfl (by decide) (Eff.callVM (vs := [_]) (M := []) (ws := [_]) (match_MediaTypes1 J2 m.media e1 e2 o mp d.media d.size d.dig A n c A' n' c' am q d.art (l2 _ _ g1) (l2 _ _ g2) g3 g4 (hmed hk2)) (.refl _) Proofs.Try.call86 rfl rfl fun y J3 P3 l3 hy => ⟨fun W h => h.holds (l.trans l3) (fun _ h => List.mem_append_right _ (List.mem_append_right _ h)), ?_⟩)
    obtain ⟨rfl, hy⟩ := hy
    skip
    subst hy
    refine RAny.tk 5 (bl 6 63) rfl (by kernel_rfl) (by decide) (fun W h => h.holds (l.trans l3) (fun _ h => by first | exact List.mem_append_right _ h | exact List.mem_append_right _ (List.mem_append_right _ h))) (Yld.eval T rfl rfl) ?_
    refine RAny.done _ (by kernel_rfl) ?_
    repeat (first | refine Run.seq ?_ | refine Run.region ?_ | refine Ops.nil ?_ | refine Ops.pure T rfl (by decide) rfl ?_ | refine Ops.loadN 0 rfl (by decide) rfl rfl (T.aggOk rfl) (T.sizeOk rfl) rfl rfl ?_ | refine Ops.loadN 1 rfl (by decide) rfl rfl (T.aggOk rfl) (T.sizeOk rfl) rfl rfl ?_ | refine Ops.loadN 2 rfl (by decide) rfl rfl (T.aggOk rfl) (T.sizeOk rfl) rfl rfl ?_ | refine Ops.loadN 3 rfl (by decide) rfl rfl (T.aggOk rfl) (T.sizeOk rfl) rfl rfl ?_ | refine Ops.loadN 4 rfl (by decide) rfl rfl (T.aggOk rfl) (T.sizeOk rfl) rfl rfl ?_ | refine Ops.loadN 5 rfl (by decide) rfl rfl (T.aggOk rfl) (T.sizeOk rfl) rfl rfl ?_)
    refine Run.fin (Run.ret1 (by rw [hCf]; exact Proofs.Try.func32) Proofs.Try.results32 rfl (hR _ _ _ ?_))
    exact ⟨rfl, by simp [mtSays, hk2]⟩
    skip
  · skip
    skip
    refine RAny.on 4 (bl 6 31) rfl (by kernel_rfl) rfl (by decide) (Eff.callVM (vs := [_]) (M := []) (ws := [_, _]) (match_Annotation1 J2 refName m.value d.anns e1 e2 d.media d.size d.dig A n c A' n' c' (.map am) q d.art (l2 _ _ g1) (l2 _ _ g2) hpm) (.refl _) Proofs.Try.call84 rfl rfl fun y J3 P3 l3 hy => ⟨fun W h => h.holds (l.trans l3) (fun _ h => List.mem_append_right _ (List.mem_append_right _ h)), ?_⟩)
    obtain ⟨rfl, hy⟩ := hy
    skip
    subst hy
    refine RAny.tk 5 (bl 6 63) rfl (by kernel_rfl) (by decide) (fun W h => h.holds (l.trans l3) (fun _ h => by first | exact List.mem_append_right _ h | exact List.mem_append_right _ (List.mem_append_right _ h))) (Yld.eval T rfl rfl) ?_
    refine RAny.done _ (by kernel_rfl) ?_
    repeat (first | refine Run.seq ?_ | refine Run.region ?_ | refine Ops.nil ?_ | refine Ops.pure T rfl (by decide) rfl ?_ | refine Ops.loadN 0 rfl (by decide) rfl rfl (T.aggOk rfl) (T.sizeOk rfl) rfl rfl ?_ | refine Ops.loadN 1 rfl (by decide) rfl rfl (T.aggOk rfl) (T.sizeOk rfl) rfl rfl ?_ | refine Ops.loadN 2 rfl (by decide) rfl rfl (T.aggOk rfl) (T.sizeOk rfl) rfl rfl ?_ | refine Ops.loadN 3 rfl (by decide) rfl rfl (T.aggOk rfl) (T.sizeOk rfl) rfl rfl ?_ | refine Ops.loadN 4 rfl (by decide) rfl rfl (T.aggOk rfl) (T.sizeOk rfl) rfl rfl ?_ | refine Ops.loadN 5 rfl (by decide) rfl rfl (T.aggOk rfl) (T.sizeOk rfl) rfl rfl ?_)
    refine Run.fin (Run.ret1 (by rw [hCf]; exact Proofs.Try.func32) Proofs.Try.results32 rfl (hR _ _ _ ?_))
    exact ⟨rfl, by simp [mtSays, hk3]⟩
    skip
  · obtain ⟨_, _, fl, f4⟩ := hfm
    obtain ⟨_, _, _, _, f5⟩ := hfd
    rcases hq with ⟨hp0, rfl, rfl⟩ | ⟨x, r, b4, Au, nu, cu, Av, nv, cv, N1, N2, hp0, rfl, q1, q2, q3, rfl⟩
    · skip
      skip
      refine RAny.on 4 (bl 6 31) rfl (by kernel_rfl) rfl (by decide) (Eff.callVM (vs := [_]) (M := []) (ws := [_]) (match_Platforms1n J2 e1 d.media d.size d.dig A n c A' n' c' am d.art) (.refl _) Proofs.Try.call87 rfl rfl fun y J3 P3 l3 hy => ⟨fun W h => h.holds (l.trans l3) (fun _ h => List.mem_append_right _ (List.mem_append_right _ h)), ?_⟩)
      obtain ⟨rfl, hy⟩ := hy
      skip
      subst hy
      refine RAny.tk 5 (bl 6 63) rfl (by kernel_rfl) (by decide) (fun W h => h.holds (l.trans l3) (fun _ h => by first | exact List.mem_append_right _ h | exact List.mem_append_right _ (List.mem_append_right _ h))) (Yld.eval T rfl rfl) ?_
      refine RAny.done _ (by kernel_rfl) ?_
      repeat (first | refine Run.seq ?_ | refine Run.region ?_ | refine Ops.nil ?_ | refine Ops.pure T rfl (by decide) rfl ?_ | refine Ops.loadN 0 rfl (by decide) rfl rfl (T.aggOk rfl) (T.sizeOk rfl) rfl rfl ?_ | refine Ops.loadN 1 rfl (by decide) rfl rfl (T.aggOk rfl) (T.sizeOk rfl) rfl rfl ?_ | refine Ops.loadN 2 rfl (by decide) rfl rfl (T.aggOk rfl) (T.sizeOk rfl) rfl rfl ?_ | refine Ops.loadN 3 rfl (by decide) rfl rfl (T.aggOk rfl) (T.sizeOk rfl) rfl rfl ?_ | refine Ops.loadN 4 rfl (by decide) rfl rfl (T.aggOk rfl) (T.sizeOk rfl) rfl rfl ?_ | refine Ops.loadN 5 rfl (by decide) rfl rfl (T.aggOk rfl) (T.sizeOk rfl) rfl rfl ?_)
      refine Run.fin (Run.ret1 (by rw [hCf]; exact Proofs.Try.func32) Proofs.Try.results32 rfl (hR _ _ _ ?_))
      exact ⟨rfl, by simp [mtSays, hk4, hp0]⟩
      skip
    · obtain ⟨_, y1, y2⟩ := f5 x (by rw [hp0]; exact List.mem_cons_self)
      refine RAny.on 4 (bl 6 31) rfl (by kernel_rfl) rfl (by decide) (Eff.callVM (vs := [_]) (M := (N1 ++ N2) ++ P1) (ws := [_]) (match_Platforms1 hs J2 x.1 x.2.1 x.2.2 e1 b4 Au nu cu Av nv cv N1 N2 P1 rs m.plats v d.media d.size d.dig A n c A' n' c' am d.art q1 (l2 _ _ g1) (g2.mono l2) q2 q3 (g3.mono l2) y1.1 y2.1 fl (fun z hz => ⟨(f4 z hz).2.1.1, (f4 z hz).2.2.1⟩)) (.refl _) Proofs.Try.call87 rfl rfl fun y J3 P3 l3 hy => ⟨fun W h => h.holds (l.trans l3) (fun _ h => List.mem_append_right _ h), ?_⟩)
      obtain ⟨_, hy⟩ := hy
      subst hy
      refine RAny.tk 5 (bl 6 63) rfl (by kernel_rfl) (by decide) (fun W h => h.holds (l.trans l3) (fun _ h => by first | exact List.mem_append_right _ h | exact List.mem_append_right _ (List.mem_append_right _ h))) (Yld.eval T rfl rfl) ?_
      refine RAny.done _ (by kernel_rfl) ?_
      repeat (first | refine Run.seq ?_ | refine Run.region ?_ | refine Ops.nil ?_ | refine Ops.pure T rfl (by decide) rfl ?_ | refine Ops.loadN 0 rfl (by decide) rfl rfl (T.aggOk rfl) (T.sizeOk rfl) rfl rfl ?_ | refine Ops.loadN 1 rfl (by decide) rfl rfl (T.aggOk rfl) (T.sizeOk rfl) rfl rfl ?_ | refine Ops.loadN 2 rfl (by decide) rfl rfl (T.aggOk rfl) (T.sizeOk rfl) rfl rfl ?_ | refine Ops.loadN 3 rfl (by decide) rfl rfl (T.aggOk rfl) (T.sizeOk rfl) rfl rfl ?_ | refine Ops.loadN 4 rfl (by decide) rfl rfl (T.aggOk rfl) (T.sizeOk rfl) rfl rfl ?_ | refine Ops.loadN 5 rfl (by decide) rfl rfl (T.aggOk rfl) (T.sizeOk rfl) rfl rfl ?_)
      refine Run.fin (Run.ret1 (by rw [hCf]; exact Proofs.Try.func32) Proofs.Try.results32 rfl (hR _ _ _ ?_))
      exact ⟨rfl, by simp [mtSays, hk4, hp0]⟩
end Go.V
