import Derived.Test.YteppnkblebknnaaGreatDoorUM7
import Derived.Test.YteppnkblebknnaaGreatDoorUM5
set_option linter.unusedVariables false
set_option linter.unusedSimpArgs false
namespace Go.V
open Go.Proofs.Tryz
open Go.RowKit
set_option maxRecDepth 10000
attribute [local irreducible] Run Ops QD
section
variable {P : Program} {n : Nat} {C : Cx} {k : List Item} {env : Env} {L : Own} {I : Imm} {ops : Array Oper} {late : List Nat} {S1 S : World → Prop}
variable {ty : TypeId} {ps : String} {af : Array Edge} {g : Option (Nat × Bool)} {d : Nat}
theorem RAnyL.twoS {listed : List Bool} {fuel : Nat} (i j : Nat) {op1 op2 : Op} {ty1 ty2 : TypeId} {ps1 ps2 : String} {af1 af2 : Array Edge} {g1 g2 : Option (Nat × Bool)} (l1 l2 : List Bool)
  (h1 : ops[i]? = some ⟨none, op1, ty1, ps1, af1, g1⟩) (h2 : ops[j]? = some ⟨none, op2, ty2, ps2, af2, g2⟩) (ok : twoOk ops listed i j l1 l2 = true) (w1 : want env ops g1 = some true) (w2 : want env ops g2 = some true)
  (e1 : Eff P n C env L I ⟨none, op1, ty1, ps1, af1, g1⟩ fun v L1 I1 => ((∀ W, Inv C.w0 C.I0 C.L0 I1 L1 W → S1 W) ∧ (late.contains i = true ∨ ∀ W, Inv C.w0 C.I0 C.L0 I1 L1 W → S W)) ∧ RAnyL P n C ops late S1 S k fuel l1 env L1 I1)
  (e2 : Eff P n C env L I ⟨none, op2, ty2, ps2, af2, g2⟩ fun v L1 I1 => ((∀ W, Inv C.w0 C.I0 C.L0 I1 L1 W → S1 W) ∧ (late.contains j = true ∨ ∀ W, Inv C.w0 C.I0 C.L0 I1 L1 W → S W)) ∧ RAnyL P n C ops late S1 S k fuel l2 env L1 I1) : RAnyL P n C ops late S1 S k (fuel + 1) listed env L I := by
 simp only [twoOk, Bool.and_eq_true, beq_iff_eq] at ok
 obtain ⟨⟨hr, hs1⟩, hs2⟩ := ok
 refine RAnyL.all [i, j] hr (by simp) fun q hq => ?_
 have hq' : q = i ∨ q = j := by simpa using hq
 rcases hq' with rfl | rfl
 ·refine ⟨_, h1, w1, dNo, fun a W he hin => ?_⟩
  rcases e1 a W he hin with ⟨v, W1, L1, I1, q1, q2, q3, q4⟩ | ⟨f, args, q1, q2⟩
  ·exact .inl ⟨v, W1, L1, I1, q1, q2, q3, l1, by rw [← hs1]; simp, q4⟩
  ·exact .inr ⟨f, args, q1, q2.mono fun e W' ⟨v, L1, I1, p1, p2, p3, p4⟩ => ⟨v, L1, I1, p1, p2, p3, l1, by rw [← hs1]; simp, p4⟩⟩
 ·refine ⟨_, h2, w2, dNo, fun a W he hin => ?_⟩
  rcases e2 a W he hin with ⟨v, W1, L1, I1, q1, q2, q3, q4⟩ | ⟨f, args, q1, q2⟩
  ·exact .inl ⟨v, W1, L1, I1, q1, q2, q3, l2, by rw [← hs2]; simp, q4⟩
  ·exact .inr ⟨f, args, q1, q2.mono fun e W' ⟨v, L1, I1, p1, p2, p3, p4⟩ => ⟨v, L1, I1, p1, p2, p3, l2, by rw [← hs2]; simp, p4⟩⟩
end
theorem setAt_mid (a o r n : List Value) (h : o.length = n.length) : setAt (a ++ (o ++ r)) a.length n = a ++ (n ++ r) := by
 unfold setAt
 rw [List.take_left, ← h, ← List.append_assoc a o r, ← List.length_append, List.drop_left, List.append_assoc]
theorem fill2 {cur xs n1 n2 c1 c2 : List Value} {p q tot : Nat} (hp : xs.length = p) (h1 : n1.length = c1.length) (h2 : n2.length = c2.length) (hq : p + c1.length = q) (ht : q + c2.length = tot) (hc : cur.take tot = xs ++ (n1 ++ n2)) (hl : tot ≤ cur.length) :
  (setAt (setAt cur p c1) q c2).take tot = xs ++ (c1 ++ c2) ∧ (setAt (setAt cur p c1) q c2).length = cur.length ∧ (setAt cur p c1).length = cur.length := by
 have e : cur = xs ++ (n1 ++ (n2 ++ cur.drop tot)) := by
  have := List.take_append_drop tot cur
  rw [hc] at this
  simpa using this.symm
 generalize cur.drop tot = r at e
 subst hp
 have e1 : setAt cur xs.length c1 = xs ++ (c1 ++ (n2 ++ r)) := by rw [e]; exact setAt_mid xs n1 _ c1 h1
 have e2 : setAt (xs ++ (c1 ++ (n2 ++ r))) q c2 = xs ++ (c1 ++ (c2 ++ r)) := by
  have := setAt_mid (xs ++ c1) n2 r c2 h2
  rw [List.length_append, hq] at this
  simpa using this
 rw [e1, e2]
 refine ⟨?_, ?_, ?_⟩
 ·rw [← ht, ← hq, show xs ++ (c1 ++ (c2 ++ r)) = (xs ++ (c1 ++ c2)) ++ r by simp, show xs.length + c1.length + c2.length = (xs ++ (c1 ++ c2)).length by simp; omega, List.take_left]
 ·rw [e]; simp only [List.length_append]; omega
 ·rw [e]; simp only [List.length_append]; omega
def zJ : List Value := [.int .u8 0, str [], .slice none 0 0]
def obj (vk : Value) : Obj := blk [.int .u8 111, str [], vk] 114
theorem sl_nil {α : Type} (t : Ty α) (I : Imm) : Sl t I (.slice none 0 0) [] := ⟨none, 0, rfl, Nat.le_refl _, .inl rfl⟩
set_option maxHeartbeats 2000000 in
theorem object_put (d : Nat) (I : Imm) (b : Nat) (name : Bs) (cv : List Value) (v : Js) (kids : List Js) (vk : Value) (M : Own) (hG : Gr (tJs (d + 1)) I 39 vk kids M) (hv : (tJs (d + 1)).rel I cv v) (hkl : kids.length ≤ 1000000) :
  Spec prog 43 [.pointer (some ⟨b, 0, none⟩), str name, .agg cv.toArray] I ((b, obj vk) :: M) fun _ J N => ∃ vk' M', N = (b, obj vk') :: M' ∧ Gr (tJs (d + 1)) J 39 vk' (kids ++ [.mk 115 name [], v]) M' := by
 obtain ⟨A2, n2, c2, rfl⟩ := tJs_shape hv
 obtain ⟨A1, c1, rfl⟩ := hG.isSl
 obtain ⟨cs, hGr, hC⟩ := hG
 have hcsl : cs.length = kids.length * 3 := hGr.1
 refine Spec.enter 23 [(0, _), (1, _), (2, _)] func43 rfl ntmps43 (by simp) rfl ?_
 intro C hCf hR hCI
 refine Run.seq ?_
 refine Run.region ?_
 refine Ops.box rfl dc rfl rfl (fun b5 => ?_)
 refine Ops.nil ?_
 skip
 refine Run.regionL [12, 15, 19] (Holds I []) (Holds I [(b5, blk [.int .u8 (v.kind.toNat : Int), str v.text, .slice A2 n2 c2] 39), (b, obj (.slice A1 kids.length c1))]) (bl 20 0) (by kernel_rfl) (by kernel_rfl) (fun W h => ⟨h.holds (Le.refl _) (by first | exact mp rfl | exact mq rfl | exact mr rfl), h.holds (Le.refl _) (by first | exact mp rfl | exact mq rfl | exact mr rfl)⟩) ?_
 refine RAnyL.tk 0 (bl 20 1) rfl (by kernel_rfl) dc rfl (T := fun _ => True) (.inl fun _ _ => trivial) (Yld.eval T rfl rfl) ?_
 refine RAnyL.tk 1 (bl 20 3) rfl (by kernel_rfl) dc rfl (T := fun _ => True) (.inl fun _ _ => trivial) (Yld.eval T rfl rfl) ?_
 refine RAnyL.tk 2 (bl 20 7) rfl (by kernel_rfl) dc rfl (T := fun _ => True) (.inl fun _ _ => trivial) (Yld.eval T rfl rfl) ?_
 refine RAnyL.tk 3 (bl 20 15) rfl (by kernel_rfl) dc rfl (T := fun _ => True) (.inl fun _ _ => trivial) (Yld.eval T rfl rfl) ?_
 refine RAnyL.tk 4 (bl 20 31) rfl (by kernel_rfl) dc rfl (.inr ⟨by kernel_rfl, fun _ h => h⟩) (Yld.load 1 T rfl rfl rfl rfl rfl) ?_
 refine RAnyL.tk 5 (bl 20 63) rfl (by kernel_rfl) dc rfl (T := fun _ => True) (.inl fun _ _ => trivial) (Yld.eval T rfl rfl) ?_
 refine RAnyL.tk 7 (bl 20 191) rfl (by kernel_rfl) dc rfl (.inr ⟨by kernel_rfl, fun _ h => h⟩) (Yld.loadN 0 T rfl rfl rfl rfl rfl rfl rfl) ?_
 refine RAnyL.tk 8 (bl 20 447) rfl (by kernel_rfl) dc rfl (T := fun _ => True) (.inl fun _ _ => trivial) (Yld.lenV T rfl rfl rfl) ?_
 refine RAnyL.tk 13 (bl 20 8639) rfl (by kernel_rfl) dc rfl (T := fun _ => True) (.inl fun _ _ => trivial) (Yld.ev (Ev.addK (r := ((kids.length + 1 : Nat) : Int)) rfl rfl (by rw [wI (by omega) (by omega)]; omega)) rfl) ?_
 refine RAnyL.two 6 9 (bl 20 8703) (bl 20 9151) rfl rfl (by kernel_rfl) rfl rfl dc dc (Eff.call (spec_jText I name) call44 rfl fun y J2 l2 hy => ⟨⟨fun W h => h.holds l2 (fun _ h => by cases h), .inr fun W h => h.holds l2 (by intro x hx; simp only [List.mem_cons, List.not_mem_nil, or_false] at hx; rcases hx with rfl | rfl <;> first | (simp; done) | exact .tail _ (.tail _ (.head _)) | exact .tail _ (.tail _ (.tail _ (.head _))))⟩, ?_⟩) (Eff.lit T rfl rfl rfl dc dc rfl rfl rfl rfl rfl fun bq => ⟨⟨fun W h => h.holds (Le.refl _) (fun _ h => by cases h), .inr fun W h => h.holds (Le.refl _) (by intro x hx; simp only [List.mem_cons, List.not_mem_nil, or_false] at hx; rcases hx with rfl | rfl <;> first | (simp; done) | exact .tail _ (.tail _ (.head _)) | exact .tail _ (.tail _ (.tail _ (.head _))))⟩, ?_⟩)
 skip
 ·skip
  skip
  obtain rfl := hy
  refine RAnyL.on 9 (bl 20 9215) rfl (by kernel_rfl) rfl dc (Eff.lit T rfl rfl rfl dc dc rfl rfl rfl rfl rfl fun bq => ⟨⟨fun W h => h.holds l2 (fun _ h => by cases h), .inr fun W h => h.holds l2 (by intro x hx; simp only [List.mem_cons, List.not_mem_nil, or_false] at hx; rcases hx with rfl | rfl <;> first | (simp; done) | exact .tail _ (.tail _ (.head _)) | exact .tail _ (.tail _ (.tail _ (.head _))))⟩, ?_⟩)
  refine RAnyL.on 10 (bl 20 10239) rfl (by kernel_rfl) rfl dc (Eff.append (M := M) (N := [_, _, _]) (news := zJ ++ zJ) (q := 2) el37 rfl rfl (List.perm_append_comm (l₁ := [_, _, _]) (l₂ := M)) hGr (fun W hi => Src.ofSlice W el37.under ⟨bq, 0, none⟩ 2 2 (zJ ++ zJ) rfl (fun j u hu => by rw [add_off, cell_blk (hi.fits.own bq _ List.mem_cons_self)]; simp only [Nat.zero_add, List.getElem?_toArray]; exact hu) (one_spec rfl)) (by omega) (by omega) fun v3 M3 hG3 => ⟨⟨fun W h => h.holds l2 (fun _ h => by cases h), .inr fun W h => h.holds l2 (by intro x hx; simp only [List.mem_cons, List.not_mem_nil, or_false] at hx; rcases hx with rfl | rfl <;> first | (simp; done) | exact .tail _ (.tail _ (.head _)) | exact .tail _ (.tail _ (.tail _ (.head _))))⟩, ?_⟩)
  obtain ⟨hlen3, hG3⟩ := hG3
  rcases hG3 with ⟨_, h0, _⟩ | ⟨b3, cap, cur, rfl, rfl, hcap, hsz, htake⟩
  ·omega
  have hcl : cur.toList.length = cap * 3 := by simpa using hsz
  obtain ⟨f1, f2, f3⟩ := fill2 (cur := cur.toList) (xs := cs) (n1 := zJ) (n2 := zJ) (c1 := [.int .u8 115, str name, .slice none 0 0]) (c2 := [.int .u8 (v.kind.toNat : Int), str v.text, .slice A2 n2 c2]) (p := kids.length * 3) (q := (kids.length + 1) * 3) (tot := (kids.length + 2) * 3) hcsl rfl rfl (by simp only [List.length_cons, List.length_nil]; omega) (by simp only [List.length_cons, List.length_nil]; omega) htake (by omega)
  refine RAnyL.perm (L' := (b3, blk cur.toList 39) :: [_, _, _]) (.refl _) ?_
  refine RAnyL.tk 11 (bl 20 12287) rfl (by kernel_rfl) dc rfl (T := fun _ => True) (.inl fun _ _ => trivial) (Yld.as (v' := .pointer (some ⟨b3, kids.length * 3, none⟩)) (Yld.indexSl (t := tJss (tJs d)) T rfl rfl rfl rfl rfl rfl (by omega) (by omega)) (by simp [show (tJss (tJs d)).size = 3 from rfl])) ?_
  refine RAnyL.tk 16 (bl 20 77823) rfl (by kernel_rfl) dc rfl (T := fun _ => True) (.inl fun _ _ => trivial) (Yld.eval T rfl rfl) ?_
  refine RAnyL.tk 17 (bl 20 208895) rfl (by kernel_rfl) dc rfl (T := fun _ => True) (.inl fun _ _ => trivial) (Yld.eval T rfl rfl) ?_
  refine RAnyL.tk 18 (bl 20 471039) rfl (by kernel_rfl) dc rfl (T := fun _ => True) (.inl fun _ _ => trivial) (Yld.eval T rfl rfl) ?_
  refine RAnyL.twoS 12 19 (bl 20 475135) (bl 20 995327) rfl rfl (by kernel_rfl) rfl rfl (Eff.store 0 rfl rfl rfl rfl (T.sizeOk rfl) rfl (by show _ + 3 ≤ _; omega) rfl rfl ⟨⟨fun W h => h.holds l2 (fun _ h => by cases h), .inl rfl⟩, ?_⟩) (Eff.store 3 rfl rfl rfl rfl (T.sizeOk rfl) rfl (Nat.le_of_ble_eq_true rfl) rfl rfl ⟨⟨fun W h => h.holds l2 (fun _ h => by cases h), .inl rfl⟩, ?_⟩)
  skip
  ·skip
   skip
   refine RAnyL.tk 14 (bl 20 491519) rfl (by kernel_rfl) dc rfl (T := fun _ => True) (.inl fun _ _ => trivial) (Yld.as (v' := .pointer (some ⟨b3, (kids.length + 1) * 3, none⟩)) (Yld.indexSl (t := tJss (tJs d)) T rfl rfl rfl rfl rfl rfl (by omega) (by omega)) (by simp [show (tJss (tJs d)).size = 3 from rfl])) ?_
   refine RAnyL.twoS 15 19 (bl 20 524287) (bl 20 1015807) rfl rfl (by kernel_rfl) rfl rfl (Eff.store 0 rfl rfl rfl rfl (T.sizeOk rfl) rfl (by show _ + 3 ≤ _; rw [f3]; omega) rfl rfl ⟨⟨fun W h => h.holds l2 (fun _ h => by cases h), .inl rfl⟩, ?_⟩) (Eff.store 3 rfl rfl rfl rfl (T.sizeOk rfl) rfl (Nat.le_of_ble_eq_true rfl) rfl rfl ⟨⟨fun W h => h.holds l2 (fun _ h => by cases h), .inl rfl⟩, ?_⟩)
   skip
   ·skip
    skip
    refine RAnyL.os 19 (bl 20 1048575) rfl (by kernel_rfl) rfl (Eff.store 3 rfl rfl rfl rfl (T.sizeOk rfl) rfl (Nat.le_of_ble_eq_true rfl) rfl rfl ⟨⟨fun W h => h.holds l2 (fun _ h => by cases h), .inl rfl⟩, ?_⟩)
    refine RAnyL.done _ (by kernel_rfl) ?_
    skip
    have hGn : Gr (tJs (d + 1)) J2 39 (.slice (some ⟨b3, 0, none⟩) (kids.length + 2) cap) (kids ++ [.mk 115 name [], v]) [(b3, blk (setAt (setAt cur.toList (kids.length * 3) [.int .u8 115, str name, .slice none 0 0]) ((kids.length + 1) * 3) [.int .u8 (v.kind.toNat : Int), str v.text, .slice A2 n2 c2]) 39)] := by
     refine ⟨cs ++ ([.int .u8 115, str name, .slice none 0 0] ++ [.int .u8 (v.kind.toNat : Int), str v.text, .slice A2 n2 c2]), ⟨by simp [hcsl, tJs_size]; omega, .inr ⟨b3, cap, (setAt (setAt cur.toList (kids.length * 3) [.int .u8 115, str name, .slice none 0 0]) ((kids.length + 1) * 3) [.int .u8 (v.kind.toNat : Int), str v.text, .slice A2 n2 c2]).toArray, by simp, rfl, by simp; omega, by simpa [f2, tJs_size] using hcl, by simpa [tJs_size] using f1⟩⟩, ?_⟩
     exact (hC.mono l2).append ((Cells.one (t := tJs (d + 1)) (x := .mk 115 name []) ⟨.slice none 0 0, rfl, sl_nil _ _⟩).append (Cells.one ((tJs (d + 1)).mono hv l2)))
    refine Run.dropL (L' := [(b3, _), (b, _)]) (List.Sublist.cons_cons _ (List.Sublist.cons _ (List.Sublist.cons _ (List.Sublist.refl _)))) ?_
    refine Run.perm (L' := [(b, _), (b3, _)]) (List.Perm.swap _ _ _) ?_
    refine Run.end0 (by rw [hCf]; exact func43) results43 (hR _ _ _ ?_)
    exact ⟨_, _, rfl, hGn⟩
   ·skip
    skip
    skip
    refine RAnyL.os 15 (bl 20 1048575) rfl (by kernel_rfl) rfl (Eff.store 0 rfl rfl rfl rfl (T.sizeOk rfl) rfl (by show _ + 3 ≤ _; rw [f3]; omega) rfl rfl ⟨⟨fun W h => h.holds l2 (fun _ h => by cases h), .inl rfl⟩, ?_⟩)
    refine RAnyL.done _ (by kernel_rfl) ?_
    skip
    have hGn : Gr (tJs (d + 1)) J2 39 (.slice (some ⟨b3, 0, none⟩) (kids.length + 2) cap) (kids ++ [.mk 115 name [], v]) [(b3, blk (setAt (setAt cur.toList (kids.length * 3) [.int .u8 115, str name, .slice none 0 0]) ((kids.length + 1) * 3) [.int .u8 (v.kind.toNat : Int), str v.text, .slice A2 n2 c2]) 39)] := by
     refine ⟨cs ++ ([.int .u8 115, str name, .slice none 0 0] ++ [.int .u8 (v.kind.toNat : Int), str v.text, .slice A2 n2 c2]), ⟨by simp [hcsl, tJs_size]; omega, .inr ⟨b3, cap, (setAt (setAt cur.toList (kids.length * 3) [.int .u8 115, str name, .slice none 0 0]) ((kids.length + 1) * 3) [.int .u8 (v.kind.toNat : Int), str v.text, .slice A2 n2 c2]).toArray, by simp, rfl, by simp; omega, by simpa [f2, tJs_size] using hcl, by simpa [tJs_size] using f1⟩⟩, ?_⟩
     exact (hC.mono l2).append ((Cells.one (t := tJs (d + 1)) (x := .mk 115 name []) ⟨.slice none 0 0, rfl, sl_nil _ _⟩).append (Cells.one ((tJs (d + 1)).mono hv l2)))
    refine Run.dropL (L' := [(b3, _), (b, _)]) (List.Sublist.cons_cons _ (List.Sublist.cons _ (List.Sublist.cons _ (List.Sublist.refl _)))) ?_
    refine Run.perm (L' := [(b, _), (b3, _)]) (List.Perm.swap _ _ _) ?_
    refine Run.end0 (by rw [hCf]; exact func43) results43 (hR _ _ _ ?_)
    exact ⟨_, _, rfl, hGn⟩
  ·skip
   skip
   skip
   refine RAnyL.os 12 (bl 20 999423) rfl (by kernel_rfl) rfl (Eff.store 0 rfl rfl rfl rfl (T.sizeOk rfl) rfl (by show _ + 3 ≤ _; omega) rfl rfl ⟨⟨fun W h => h.holds l2 (fun _ h => by cases h), .inl rfl⟩, ?_⟩)
   refine RAnyL.tk 14 (bl 20 1015807) rfl (by kernel_rfl) dc rfl (T := fun _ => True) (.inl fun _ _ => trivial) (Yld.as (v' := .pointer (some ⟨b3, (kids.length + 1) * 3, none⟩)) (Yld.indexSl (t := tJss (tJs d)) T rfl rfl rfl rfl rfl rfl (by omega) (by omega)) (by simp [show (tJss (tJs d)).size = 3 from rfl])) ?_
   refine RAnyL.os 15 (bl 20 1048575) rfl (by kernel_rfl) rfl (Eff.store 0 rfl rfl rfl rfl (T.sizeOk rfl) rfl (by show _ + 3 ≤ _; rw [f3]; omega) rfl rfl ⟨⟨fun W h => h.holds l2 (fun _ h => by cases h), .inl rfl⟩, ?_⟩)
   refine RAnyL.done _ (by kernel_rfl) ?_
   skip
   have hGn : Gr (tJs (d + 1)) J2 39 (.slice (some ⟨b3, 0, none⟩) (kids.length + 2) cap) (kids ++ [.mk 115 name [], v]) [(b3, blk (setAt (setAt cur.toList (kids.length * 3) [.int .u8 115, str name, .slice none 0 0]) ((kids.length + 1) * 3) [.int .u8 (v.kind.toNat : Int), str v.text, .slice A2 n2 c2]) 39)] := by
    refine ⟨cs ++ ([.int .u8 115, str name, .slice none 0 0] ++ [.int .u8 (v.kind.toNat : Int), str v.text, .slice A2 n2 c2]), ⟨by simp [hcsl, tJs_size]; omega, .inr ⟨b3, cap, (setAt (setAt cur.toList (kids.length * 3) [.int .u8 115, str name, .slice none 0 0]) ((kids.length + 1) * 3) [.int .u8 (v.kind.toNat : Int), str v.text, .slice A2 n2 c2]).toArray, by simp, rfl, by simp; omega, by simpa [f2, tJs_size] using hcl, by simpa [tJs_size] using f1⟩⟩, ?_⟩
    exact (hC.mono l2).append ((Cells.one (t := tJs (d + 1)) (x := .mk 115 name []) ⟨.slice none 0 0, rfl, sl_nil _ _⟩).append (Cells.one ((tJs (d + 1)).mono hv l2)))
   refine Run.dropL (L' := [(b3, _), (b, _)]) (List.Sublist.cons_cons _ (List.Sublist.cons _ (List.Sublist.cons _ (List.Sublist.refl _)))) ?_
   refine Run.perm (L' := [(b, _), (b3, _)]) (List.Perm.swap _ _ _) ?_
   refine Run.end0 (by rw [hCf]; exact func43) results43 (hR _ _ _ ?_)
   exact ⟨_, _, rfl, hGn⟩
 ·skip
  skip
  skip
  refine RAnyL.on 6 (bl 20 9215) rfl (by kernel_rfl) rfl dc (Eff.call (spec_jText I name) call44 rfl fun y J2 l2 hy => ⟨⟨fun W h => h.holds l2 (fun _ h => by cases h), .inr fun W h => h.holds l2 (by intro x hx; simp only [List.mem_cons, List.not_mem_nil, or_false] at hx; rcases hx with rfl | rfl <;> first | (simp; done) | exact .tail _ (.tail _ (.head _)) | exact .tail _ (.tail _ (.tail _ (.head _))))⟩, ?_⟩)
  obtain rfl := hy
  refine RAnyL.on 10 (bl 20 10239) rfl (by kernel_rfl) rfl dc (Eff.append (M := M) (N := [_, _, _]) (news := zJ ++ zJ) (q := 2) el37 rfl rfl (List.perm_append_comm (l₁ := [_, _, _]) (l₂ := M)) hGr (fun W hi => Src.ofSlice W el37.under ⟨bq, 0, none⟩ 2 2 (zJ ++ zJ) rfl (fun j u hu => by rw [add_off, cell_blk (hi.fits.own bq _ List.mem_cons_self)]; simp only [Nat.zero_add, List.getElem?_toArray]; exact hu) (one_spec rfl)) (by omega) (by omega) fun v3 M3 hG3 => ⟨⟨fun W h => h.holds l2 (fun _ h => by cases h), .inr fun W h => h.holds l2 (by intro x hx; simp only [List.mem_cons, List.not_mem_nil, or_false] at hx; rcases hx with rfl | rfl <;> first | (simp; done) | exact .tail _ (.tail _ (.head _)) | exact .tail _ (.tail _ (.tail _ (.head _))))⟩, ?_⟩)
  obtain ⟨hlen3, hG3⟩ := hG3
  rcases hG3 with ⟨_, h0, _⟩ | ⟨b3, cap, cur, rfl, rfl, hcap, hsz, htake⟩
  ·omega
  have hcl : cur.toList.length = cap * 3 := by simpa using hsz
  obtain ⟨f1, f2, f3⟩ := fill2 (cur := cur.toList) (xs := cs) (n1 := zJ) (n2 := zJ) (c1 := [.int .u8 115, str name, .slice none 0 0]) (c2 := [.int .u8 (v.kind.toNat : Int), str v.text, .slice A2 n2 c2]) (p := kids.length * 3) (q := (kids.length + 1) * 3) (tot := (kids.length + 2) * 3) hcsl rfl rfl (by simp only [List.length_cons, List.length_nil]; omega) (by simp only [List.length_cons, List.length_nil]; omega) htake (by omega)
  refine RAnyL.perm (L' := (b3, blk cur.toList 39) :: [_, _, _]) (.refl _) ?_
  refine RAnyL.tk 11 (bl 20 12287) rfl (by kernel_rfl) dc rfl (T := fun _ => True) (.inl fun _ _ => trivial) (Yld.as (v' := .pointer (some ⟨b3, kids.length * 3, none⟩)) (Yld.indexSl (t := tJss (tJs d)) T rfl rfl rfl rfl rfl rfl (by omega) (by omega)) (by simp [show (tJss (tJs d)).size = 3 from rfl])) ?_
  refine RAnyL.tk 16 (bl 20 77823) rfl (by kernel_rfl) dc rfl (T := fun _ => True) (.inl fun _ _ => trivial) (Yld.eval T rfl rfl) ?_
  refine RAnyL.tk 17 (bl 20 208895) rfl (by kernel_rfl) dc rfl (T := fun _ => True) (.inl fun _ _ => trivial) (Yld.eval T rfl rfl) ?_
  refine RAnyL.tk 18 (bl 20 471039) rfl (by kernel_rfl) dc rfl (T := fun _ => True) (.inl fun _ _ => trivial) (Yld.eval T rfl rfl) ?_
  refine RAnyL.twoS 12 19 (bl 20 475135) (bl 20 995327) rfl rfl (by kernel_rfl) rfl rfl (Eff.store 0 rfl rfl rfl rfl (T.sizeOk rfl) rfl (by show _ + 3 ≤ _; omega) rfl rfl ⟨⟨fun W h => h.holds l2 (fun _ h => by cases h), .inl rfl⟩, ?_⟩) (Eff.store 3 rfl rfl rfl rfl (T.sizeOk rfl) rfl (Nat.le_of_ble_eq_true rfl) rfl rfl ⟨⟨fun W h => h.holds l2 (fun _ h => by cases h), .inl rfl⟩, ?_⟩)
  skip
  ·skip
   skip
   refine RAnyL.tk 14 (bl 20 491519) rfl (by kernel_rfl) dc rfl (T := fun _ => True) (.inl fun _ _ => trivial) (Yld.as (v' := .pointer (some ⟨b3, (kids.length + 1) * 3, none⟩)) (Yld.indexSl (t := tJss (tJs d)) T rfl rfl rfl rfl rfl rfl (by omega) (by omega)) (by simp [show (tJss (tJs d)).size = 3 from rfl])) ?_
   refine RAnyL.twoS 15 19 (bl 20 524287) (bl 20 1015807) rfl rfl (by kernel_rfl) rfl rfl (Eff.store 0 rfl rfl rfl rfl (T.sizeOk rfl) rfl (by show _ + 3 ≤ _; rw [f3]; omega) rfl rfl ⟨⟨fun W h => h.holds l2 (fun _ h => by cases h), .inl rfl⟩, ?_⟩) (Eff.store 3 rfl rfl rfl rfl (T.sizeOk rfl) rfl (Nat.le_of_ble_eq_true rfl) rfl rfl ⟨⟨fun W h => h.holds l2 (fun _ h => by cases h), .inl rfl⟩, ?_⟩)
   skip
   ·skip
    skip
    refine RAnyL.os 19 (bl 20 1048575) rfl (by kernel_rfl) rfl (Eff.store 3 rfl rfl rfl rfl (T.sizeOk rfl) rfl (Nat.le_of_ble_eq_true rfl) rfl rfl ⟨⟨fun W h => h.holds l2 (fun _ h => by cases h), .inl rfl⟩, ?_⟩)
    refine RAnyL.done _ (by kernel_rfl) ?_
    skip
    have hGn : Gr (tJs (d + 1)) J2 39 (.slice (some ⟨b3, 0, none⟩) (kids.length + 2) cap) (kids ++ [.mk 115 name [], v]) [(b3, blk (setAt (setAt cur.toList (kids.length * 3) [.int .u8 115, str name, .slice none 0 0]) ((kids.length + 1) * 3) [.int .u8 (v.kind.toNat : Int), str v.text, .slice A2 n2 c2]) 39)] := by
     refine ⟨cs ++ ([.int .u8 115, str name, .slice none 0 0] ++ [.int .u8 (v.kind.toNat : Int), str v.text, .slice A2 n2 c2]), ⟨by simp [hcsl, tJs_size]; omega, .inr ⟨b3, cap, (setAt (setAt cur.toList (kids.length * 3) [.int .u8 115, str name, .slice none 0 0]) ((kids.length + 1) * 3) [.int .u8 (v.kind.toNat : Int), str v.text, .slice A2 n2 c2]).toArray, by simp, rfl, by simp; omega, by simpa [f2, tJs_size] using hcl, by simpa [tJs_size] using f1⟩⟩, ?_⟩
     exact (hC.mono l2).append ((Cells.one (t := tJs (d + 1)) (x := .mk 115 name []) ⟨.slice none 0 0, rfl, sl_nil _ _⟩).append (Cells.one ((tJs (d + 1)).mono hv l2)))
    refine Run.dropL (L' := [(b3, _), (b, _)]) (List.Sublist.cons_cons _ (List.Sublist.cons _ (List.Sublist.cons _ (List.Sublist.refl _)))) ?_
    refine Run.perm (L' := [(b, _), (b3, _)]) (List.Perm.swap _ _ _) ?_
    refine Run.end0 (by rw [hCf]; exact func43) results43 (hR _ _ _ ?_)
    exact ⟨_, _, rfl, hGn⟩
   ·skip
    skip
    skip
    refine RAnyL.os 15 (bl 20 1048575) rfl (by kernel_rfl) rfl (Eff.store 0 rfl rfl rfl rfl (T.sizeOk rfl) rfl (by show _ + 3 ≤ _; rw [f3]; omega) rfl rfl ⟨⟨fun W h => h.holds l2 (fun _ h => by cases h), .inl rfl⟩, ?_⟩)
    refine RAnyL.done _ (by kernel_rfl) ?_
    skip
    have hGn : Gr (tJs (d + 1)) J2 39 (.slice (some ⟨b3, 0, none⟩) (kids.length + 2) cap) (kids ++ [.mk 115 name [], v]) [(b3, blk (setAt (setAt cur.toList (kids.length * 3) [.int .u8 115, str name, .slice none 0 0]) ((kids.length + 1) * 3) [.int .u8 (v.kind.toNat : Int), str v.text, .slice A2 n2 c2]) 39)] := by
     refine ⟨cs ++ ([.int .u8 115, str name, .slice none 0 0] ++ [.int .u8 (v.kind.toNat : Int), str v.text, .slice A2 n2 c2]), ⟨by simp [hcsl, tJs_size]; omega, .inr ⟨b3, cap, (setAt (setAt cur.toList (kids.length * 3) [.int .u8 115, str name, .slice none 0 0]) ((kids.length + 1) * 3) [.int .u8 (v.kind.toNat : Int), str v.text, .slice A2 n2 c2]).toArray, by simp, rfl, by simp; omega, by simpa [f2, tJs_size] using hcl, by simpa [tJs_size] using f1⟩⟩, ?_⟩
     exact (hC.mono l2).append ((Cells.one (t := tJs (d + 1)) (x := .mk 115 name []) ⟨.slice none 0 0, rfl, sl_nil _ _⟩).append (Cells.one ((tJs (d + 1)).mono hv l2)))
    refine Run.dropL (L' := [(b3, _), (b, _)]) (List.Sublist.cons_cons _ (List.Sublist.cons _ (List.Sublist.cons _ (List.Sublist.refl _)))) ?_
    refine Run.perm (L' := [(b, _), (b3, _)]) (List.Perm.swap _ _ _) ?_
    refine Run.end0 (by rw [hCf]; exact func43) results43 (hR _ _ _ ?_)
    exact ⟨_, _, rfl, hGn⟩
  ·skip
   skip
   skip
   refine RAnyL.os 12 (bl 20 999423) rfl (by kernel_rfl) rfl (Eff.store 0 rfl rfl rfl rfl (T.sizeOk rfl) rfl (by show _ + 3 ≤ _; omega) rfl rfl ⟨⟨fun W h => h.holds l2 (fun _ h => by cases h), .inl rfl⟩, ?_⟩)
   refine RAnyL.tk 14 (bl 20 1015807) rfl (by kernel_rfl) dc rfl (T := fun _ => True) (.inl fun _ _ => trivial) (Yld.as (v' := .pointer (some ⟨b3, (kids.length + 1) * 3, none⟩)) (Yld.indexSl (t := tJss (tJs d)) T rfl rfl rfl rfl rfl rfl (by omega) (by omega)) (by simp [show (tJss (tJs d)).size = 3 from rfl])) ?_
   refine RAnyL.os 15 (bl 20 1048575) rfl (by kernel_rfl) rfl (Eff.store 0 rfl rfl rfl rfl (T.sizeOk rfl) rfl (by show _ + 3 ≤ _; rw [f3]; omega) rfl rfl ⟨⟨fun W h => h.holds l2 (fun _ h => by cases h), .inl rfl⟩, ?_⟩)
   refine RAnyL.done _ (by kernel_rfl) ?_
   skip
   have hGn : Gr (tJs (d + 1)) J2 39 (.slice (some ⟨b3, 0, none⟩) (kids.length + 2) cap) (kids ++ [.mk 115 name [], v]) [(b3, blk (setAt (setAt cur.toList (kids.length * 3) [.int .u8 115, str name, .slice none 0 0]) ((kids.length + 1) * 3) [.int .u8 (v.kind.toNat : Int), str v.text, .slice A2 n2 c2]) 39)] := by
    refine ⟨cs ++ ([.int .u8 115, str name, .slice none 0 0] ++ [.int .u8 (v.kind.toNat : Int), str v.text, .slice A2 n2 c2]), ⟨by simp [hcsl, tJs_size]; omega, .inr ⟨b3, cap, (setAt (setAt cur.toList (kids.length * 3) [.int .u8 115, str name, .slice none 0 0]) ((kids.length + 1) * 3) [.int .u8 (v.kind.toNat : Int), str v.text, .slice A2 n2 c2]).toArray, by simp, rfl, by simp; omega, by simpa [f2, tJs_size] using hcl, by simpa [tJs_size] using f1⟩⟩, ?_⟩
    exact (hC.mono l2).append ((Cells.one (t := tJs (d + 1)) (x := .mk 115 name []) ⟨.slice none 0 0, rfl, sl_nil _ _⟩).append (Cells.one ((tJs (d + 1)).mono hv l2)))
   refine Run.dropL (L' := [(b3, _), (b, _)]) (List.Sublist.cons_cons _ (List.Sublist.cons _ (List.Sublist.cons _ (List.Sublist.refl _)))) ?_
   refine Run.perm (L' := [(b, _), (b3, _)]) (List.Perm.swap _ _ _) ?_
   refine Run.end0 (by rw [hCf]; exact func43) results43 (hR _ _ _ ?_)
   exact ⟨_, _, rfl, hGn⟩
end Go.V
namespace Go.V
open Go.Proofs.Tryz
open Go.RowKit
set_option maxRecDepth 10000
attribute [local irreducible] Run Ops QD
theorem b64iy {n : Nat} (h : n < 64) : Value.int .u8 (((b64A.getD ((n : Nat) : Int).toNat 0).toNat : Nat) : Int) = w8 (b64c n) := b64ix h
theorem b64c_enc (n : Nat) : encR (((b64c n).toNat : Nat) : Int) = [b64c n] := by
 have h := b64c_asc n
 rw [encR_ascii _ (by omega) (by omega)]; simp
set_option maxHeartbeats 4000000 in
theorem spec_base64 (I : Imm) (s : Bs) (hl : s.length ≤ 1099511627776) : Pure prog 96 [str s] I fun w J => w = str (b64 s) := by
 have hbl := b64_len s
 refine Spec.enter 59 [(0, _)] func96 rfl ntmps96 (by simp) rfl ?_
 intro C hCf hR hCI
 refine Run.seq ?_
 refine Run.regionO (D := [some 2]) [true] rfl rfl rfl (fun Z hZ => ?_)
 refine q1 dc rfl rfl ?_
 refine QD.nil (hZ _ ?_)
 clear hZ Z
 refine Run.seq ?_
 refine Run.regionO (D := [some 3]) [true] rfl rfl rfl (fun Z hZ => ?_)
 refine q1 dc rfl rfl ?_
 refine QD.nil (hZ _ ?_)
 clear hZ Z
 refine Run.seq ?_
 refine Run.regionO (D := [some 4]) [true] rfl rfl rfl (fun Z hZ => ?_)
 refine q1 dc rfl rfl ?_
 refine QD.nil (hZ _ ?_)
 clear hZ Z
 repeat refine Run.seq ?_
 refine Run.regionO (D := [some 5]) [true] rfl rfl rfl (fun Z hZ => ?_)
 refine q1 dc rfl rfl ?_
 refine QD.nil (hZ _ ?_)
 clear hZ Z
 refine Run.block ?_
 refine Run.keep [0, 3, 4, 5] [_, _, _, _] rfl ?_
 refine Run.rounds (fun m env L J => ∃ (at0 : Nat) (rest out : Bs), m = rest.length ∧ s.drop at0 = rest ∧ out ++ b64 rest = b64 s ∧ at0 ≤ s.length + 2 ∧ env = [(0, str s), (3, str b64A), (4, str out), (5, .int .i64 (at0 : Int))] ∧ L = [] ∧ I = J) s.length ⟨0, s, [], rfl, rfl, rfl, by omega, rfl, rfl, rfl⟩ ?_
 rintro m env L J ⟨at0, rest, out, rfl, hd, hout, hat, rfl, rfl, rfl⟩ ih
 have hdl := congrArg List.length hd
 rw [List.length_drop] at hdl
 have hol := congrArg List.length hout
 rw [List.length_append] at hol
 have hget : ∀ j, s.getD (at0 + j) 0 = rest.getD j 0 := fun j => by rw [← hd, List.getD_eq_getElem?_getD, List.getD_eq_getElem?_getD, List.getElem?_drop]
 repeat refine Run.seq ?_
 match rest, hd, hdl, hget, hout, hol with
 | [], hd, hdl, hget, hout, hol =>
  simp only [List.length_nil] at hdl
  refine Run.regionO (D := [some 10, some 11, some 12, some 13]) [true, true, true, true] rfl rfl rfl (fun Z hZ => ?_)
  iterate 2 refine q1 dc rfl rfl ?_
  refine QD.e (Ev.lenS T rfl rfl) dc rfl ?_
  refine qf (Ev.lss rfl rfl) (by omega) dc rfl ?_
  refine QD.nil (hZ _ ?_)
  clear hZ Z
  repeat (first | refine Run.seq ?_ | refine Run.exit rfl ?_ | refine Run.cond_f rfl ?_)
  refine Run.regionO (D := [some 58, some 2]) [true, true] rfl rfl rfl (fun Z hZ => ?_)
  iterate 2 refine q1 dc rfl rfl ?_
  refine QD.nil (hZ _ ?_)
  clear hZ Z
  skip
  refine Run.fin (Run.ret1 (by rw [hCf]; exact func96) results96 rfl (hR _ _ _ ?_))
  exact ⟨rfl, by rw [← hout]; simp [b64]⟩
 | [a], hd, hdl, hget, hout, hol =>
  have g0 := congrArg UInt8.toNat (hget 0)
  simp only [List.length_cons, List.length_nil] at hdl
  have la := a.toNat_lt
  have hA : [a].getD 0 0 = a := rfl
  rw [hA] at g0
  simp only [b64, List.length_cons, List.length_nil] at hol
  have hd3 : s.drop (at0 + 3) = [] := List.drop_eq_nil_of_le (by omega)
  have ho3 : out ++ [b64c (a.toNat / 4)] ++ [b64c (a.toNat % 4 * 16)] ++ [61] ++ [61] ++ b64 [] = b64 s := by rw [← hout]; simp [b64]
  generalize a.toNat = A at *
  refine Run.regionO (D := [some 10, some 11, some 12, some 13]) [true, true, true, true] rfl rfl rfl (fun Z hZ => ?_)
  iterate 2 refine q1 dc rfl rfl ?_
  refine QD.e (Ev.lenS T rfl rfl) dc rfl ?_
  refine qt (Ev.lss rfl rfl) (by omega) dc rfl ?_
  refine QD.nil (hZ _ ?_)
  clear hZ Z
  repeat (first | refine Run.seq ?_ | refine Run.skip ?_ | refine Run.block ?_ | refine Run.cond_t rfl ?_)
  refine Run.regionO (D := [some 16, some 17, some 18, some 19, some 20, some 6, some 7]) [true, true, true, true, true, true, true] rfl rfl rfl (fun Z hZ => ?_)
  refine q1 dc rfl rfl ?_
  refine QD.e (Ev.lenS T rfl rfl) dc rfl ?_
  refine q1 dc rfl rfl ?_
  refine QD.e (Ev.subK (r := ((s.length - at0 : Nat) : Int)) rfl rfl (by rw [wI (by omega) (by omega)]; omega)) dc rfl ?_
  refine QD.e ((Ev.min2 rfl rfl).as (show _ = Value.int .i64 ((1 : Nat) : Int) from congrArg (Value.int .i64) (by omega))) dc rfl ?_
  iterate 2 refine q1 dc rfl rfl ?_
  refine QD.nil (hZ _ ?_)
  clear hZ Z
  repeat refine Run.seq ?_
  refine Run.regionO (D := [some 21]) [true] rfl rfl rfl (fun Z hZ => ?_)
  refine q1 dc rfl rfl ?_
  refine QD.nil (hZ _ ?_)
  clear hZ Z
  refine Run.block ?_
  refine Run.keep [0, 3, 4, 5, 6, 7, 21] [_, _, _, _, _, _, _] rfl ?_
  refine Run.loop ?_
  refine Run.seq ?_
  refine Run.regionO (D := [some 22]) [true] rfl rfl rfl (fun Z hZ => ?_)
  refine QD.e ((Ev.lss rfl rfl).as (show _ = Value.bool true from rfl)) dc rfl ?_
  refine QD.nil (hZ _ ?_)
  clear hZ Z
  repeat (first | refine Run.seq ?_ | refine Run.skip ?_ | refine Run.block ?_ | refine Run.cond_t rfl ?_)
  refine Run.regionO (D := [some 23, some 8]) [true, true] rfl rfl rfl (fun Z hZ => ?_)
  iterate 2 refine q1 dc rfl rfl ?_
  refine QD.nil (hZ _ ?_)
  clear hZ Z
  refine Run.seq ?_
  refine Run.regionO (D := [some 24, some 25, some 6]) [true, true, true] rfl rfl rfl (fun Z hZ => ?_)
  refine q1 dc rfl rfl ?_
  refine QD.e (Ev.shlK (r := ((0 * 256 : Nat) : Int)) rfl rfl dc dc (by show IntKind.i64.wrap (((0 : Nat) : Int) * 256) = _; rw [wI (by omega) (by omega)]; omega)) dc rfl ?_
  refine q1 dc rfl rfl ?_
  refine QD.nil (hZ _ ?_)
  clear hZ Z
  refine Run.seq ?_
  refine Run.regionO (D := [some 26, some 27, some 28]) [true, true, true] rfl rfl rfl (fun Z hZ => ?_)
  iterate 2 refine q1 dc rfl rfl ?_
  refine QD.e ((Ev.lss rfl rfl).as (show _ = Value.bool true from rfl)) dc rfl ?_
  refine QD.nil (hZ _ ?_)
  clear hZ Z
  refine Run.cond_t rfl ?_
  refine Run.regionO (D := [some 29, some 30, some 31, some 32, some 33, some 34, some 35, some 36, some 6]) [true, true, true, true, true, true, true, true, true] rfl rfl rfl (fun Z hZ => ?_)
  iterate 4 refine q1 dc rfl rfl ?_
  refine QD.e (Ev.addK (r := ((at0 + 0 : Nat) : Int)) rfl rfl (by rw [wI (by omega) (by omega)]; omega)) dc rfl ?_
  refine QD.e ((Ev.indexT (s := s) T rfl rfl rfl (by omega) (by omega)).as (show _ = Value.int .u8 ((A : Nat) : Int) from by show Value.int .u8 (((s.getD _ 0).toNat : Nat) : Int) = _; rw [Int.toNat_natCast, g0])) dc rfl ?_
  refine QD.e (Ev.conv (r := ((A : Nat) : Int)) T rfl rfl rfl (wI (by omega) (by omega))) dc rfl ?_
  refine QD.e (Ev.orK (a := 0 * 256) (b := A) (c := A) rfl rfl (by show _ < 18446744073709551616; omega) (by show _ < 18446744073709551616; omega) (by rw [show 0 * 256 = 0 * 2 ^ 8 from rfl, orSh 8 (by omega)] <;> omega) (wI (by omega) (by omega))) dc rfl ?_
  refine q1 dc rfl rfl ?_
  refine QD.nil (hZ _ ?_)
  clear hZ Z
  refine Run.inBlock ?_
  refine Run.regionO (D := [some 37, some 21]) [true, true] rfl rfl rfl (fun Z hZ => ?_)
  refine QD.e (Ev.addI rfl rfl (wI om om)) dc rfl ?_
  refine q1 dc rfl rfl ?_
  refine QD.nil (hZ _ ?_)
  clear hZ Z
  skip
  refine Run.keep [0, 3, 4, 5, 6, 7, 21] [_, _, _, _, _, _, _] rfl ?_
  refine Run.inLoop ?_
  refine Run.seq ?_
  refine Run.regionO (D := [some 22]) [true] rfl rfl rfl (fun Z hZ => ?_)
  refine QD.e ((Ev.lss rfl rfl).as (show _ = Value.bool true from rfl)) dc rfl ?_
  refine QD.nil (hZ _ ?_)
  clear hZ Z
  repeat (first | refine Run.seq ?_ | refine Run.skip ?_ | refine Run.block ?_ | refine Run.cond_t rfl ?_)
  refine Run.regionO (D := [some 23, some 8]) [true, true] rfl rfl rfl (fun Z hZ => ?_)
  iterate 2 refine q1 dc rfl rfl ?_
  refine QD.nil (hZ _ ?_)
  clear hZ Z
  refine Run.seq ?_
  refine Run.regionO (D := [some 24, some 25, some 6]) [true, true, true] rfl rfl rfl (fun Z hZ => ?_)
  refine q1 dc rfl rfl ?_
  refine QD.e (Ev.shlK (r := ((A * 256 : Nat) : Int)) rfl rfl dc dc (by show IntKind.i64.wrap (((A : Nat) : Int) * 256) = _; rw [wI (by omega) (by omega)]; omega)) dc rfl ?_
  refine q1 dc rfl rfl ?_
  refine QD.nil (hZ _ ?_)
  clear hZ Z
  refine Run.seq ?_
  refine Run.regionO (D := [some 26, some 27, some 28]) [true, true, true] rfl rfl rfl (fun Z hZ => ?_)
  iterate 2 refine q1 dc rfl rfl ?_
  refine QD.e ((Ev.lss rfl rfl).as (show _ = Value.bool false from rfl)) dc rfl ?_
  refine QD.nil (hZ _ ?_)
  clear hZ Z
  repeat (first | refine Run.skip ?_ | refine Run.inBlock ?_ | refine Run.cond_f rfl ?_)
  refine Run.regionO (D := [some 37, some 21]) [true, true] rfl rfl rfl (fun Z hZ => ?_)
  refine QD.e (Ev.addI rfl rfl (wI om om)) dc rfl ?_
  refine q1 dc rfl rfl ?_
  refine QD.nil (hZ _ ?_)
  clear hZ Z
  skip
  refine Run.keep [0, 3, 4, 5, 6, 7, 21] [_, _, _, _, _, _, _] rfl ?_
  refine Run.inLoop ?_
  refine Run.seq ?_
  refine Run.regionO (D := [some 22]) [true] rfl rfl rfl (fun Z hZ => ?_)
  refine QD.e ((Ev.lss rfl rfl).as (show _ = Value.bool true from rfl)) dc rfl ?_
  refine QD.nil (hZ _ ?_)
  clear hZ Z
  repeat (first | refine Run.seq ?_ | refine Run.skip ?_ | refine Run.block ?_ | refine Run.cond_t rfl ?_)
  refine Run.regionO (D := [some 23, some 8]) [true, true] rfl rfl rfl (fun Z hZ => ?_)
  iterate 2 refine q1 dc rfl rfl ?_
  refine QD.nil (hZ _ ?_)
  clear hZ Z
  refine Run.seq ?_
  refine Run.regionO (D := [some 24, some 25, some 6]) [true, true, true] rfl rfl rfl (fun Z hZ => ?_)
  refine q1 dc rfl rfl ?_
  refine QD.e (Ev.shlK (r := ((A * 256 * 256 : Nat) : Int)) rfl rfl dc dc (by show IntKind.i64.wrap (((A * 256 : Nat) : Int) * 256) = _; rw [wI (by omega) (by omega)]; omega)) dc rfl ?_
  refine q1 dc rfl rfl ?_
  refine QD.nil (hZ _ ?_)
  clear hZ Z
  refine Run.seq ?_
  refine Run.regionO (D := [some 26, some 27, some 28]) [true, true, true] rfl rfl rfl (fun Z hZ => ?_)
  iterate 2 refine q1 dc rfl rfl ?_
  refine QD.e ((Ev.lss rfl rfl).as (show _ = Value.bool false from rfl)) dc rfl ?_
  refine QD.nil (hZ _ ?_)
  clear hZ Z
  repeat (first | refine Run.skip ?_ | refine Run.inBlock ?_ | refine Run.cond_f rfl ?_)
  refine Run.regionO (D := [some 37, some 21]) [true, true] rfl rfl rfl (fun Z hZ => ?_)
  refine QD.e (Ev.addI rfl rfl (wI om om)) dc rfl ?_
  refine q1 dc rfl rfl ?_
  refine QD.nil (hZ _ ?_)
  clear hZ Z
  skip
  refine Run.keep [0, 3, 4, 5, 6, 7, 21] [_, _, _, _, _, _, _] rfl ?_
  refine Run.inLoop ?_
  refine Run.seq ?_
  refine Run.regionO (D := [some 22]) [true] rfl rfl rfl (fun Z hZ => ?_)
  refine QD.e ((Ev.lss rfl rfl).as (show _ = Value.bool false from rfl)) dc rfl ?_
  refine QD.nil (hZ _ ?_)
  clear hZ Z
  repeat (first | refine Run.seq ?_ | refine Run.exit rfl ?_ | refine Run.cond_f rfl ?_)
  refine Run.regionO (D := [some 38]) [true] rfl rfl rfl (fun Z hZ => ?_)
  refine q1 dc rfl rfl ?_
  refine QD.nil (hZ _ ?_)
  clear hZ Z
  refine Run.block ?_
  refine Run.keep [0, 3, 4, 5, 6, 7, 38] [_, _, _, _, _, _, _] rfl ?_
  refine Run.loop ?_
  refine Run.seq ?_
  refine Run.regionO (D := [some 39]) [true] rfl rfl rfl (fun Z hZ => ?_)
  refine QD.e ((Ev.lss rfl rfl).as (show _ = Value.bool true from rfl)) dc rfl ?_
  refine QD.nil (hZ _ ?_)
  clear hZ Z
  repeat (first | refine Run.seq ?_ | refine Run.skip ?_ | refine Run.block ?_ | refine Run.cond_t rfl ?_)
  refine Run.regionO (D := [some 40, some 9]) [true, true] rfl rfl rfl (fun Z hZ => ?_)
  iterate 2 refine q1 dc rfl rfl ?_
  refine QD.nil (hZ _ ?_)
  clear hZ Z
  repeat refine Run.seq ?_
  refine Run.regionO (D := [some 41, some 42, some 43]) [true, true, true] rfl rfl rfl (fun Z hZ => ?_)
  iterate 2 refine q1 dc rfl rfl ?_
  refine QD.e ((Ev.gtr rfl rfl).as (show _ = Value.bool false from rfl)) dc rfl ?_
  refine QD.nil (hZ _ ?_)
  clear hZ Z
  repeat (first | refine Run.skip ?_ | refine Run.cond_f rfl ?_)
  refine Run.regionO (D := [some 46, some 47, some 48, some 49, some 50, some 51, some 52, some 53, some 54, some 55, some 56, some 4]) [true, true, true, true, true, true, true, true, true, true, true, true] rfl rfl rfl (fun Z hZ => ?_)
  iterate 4 refine q1 dc rfl rfl ?_
  refine QD.e (Ev.mulK (r := (6 * 0 : Int)) rfl rfl dc) dc rfl ?_
  refine QD.e (Ev.subK (r := (18 - 6 * 0 : Int)) rfl rfl dc) dc rfl ?_
  refine QD.e (Ev.shrK (r := (((A * 256 * 256) / 2 ^ (18 - 6 * 0) : Nat) : Int)) rfl rfl dc dc (shrL (A * 256 * 256) (18 - 6 * 0))) dc rfl ?_
  refine QD.e (Ev.andK (a := (A * 256 * 256) / 2 ^ (18 - 6 * 0)) (b := 63) (c := A / 4) rfl rfl (by show _ < 18446744073709551616; omega) dc (by rw [and63] <;> omega) (wI (by omega) (by omega))) dc rfl ?_
  refine QD.e ((Ev.indexT (s := b64A) T rfl rfl rfl (by omega) (by show _ < (64 : Int); omega)).as (b64iy (n := A / 4) (by omega))) dc rfl ?_
  refine QD.e ((Ev.convRune T rfl rfl rfl).as (show _ = str [b64c (A / 4)] from congrArg str (b64c_enc _))) dc rfl ?_
  refine QD.e (Ev.catS rfl rfl (by simp only [List.length_append, List.length_cons, List.length_nil]; omega)) dc rfl ?_
  refine q1 dc rfl rfl ?_
  refine QD.nil (hZ _ ?_)
  clear hZ Z
  refine Run.inBlock ?_
  refine Run.regionO (D := [some 57, some 38]) [true, true] rfl rfl rfl (fun Z hZ => ?_)
  refine QD.e (Ev.addI rfl rfl (wI om om)) dc rfl ?_
  refine q1 dc rfl rfl ?_
  refine QD.nil (hZ _ ?_)
  clear hZ Z
  skip
  refine Run.keep [0, 3, 4, 5, 6, 7, 38] [_, _, _, _, _, _, _] rfl ?_
  refine Run.inLoop ?_
  refine Run.seq ?_
  refine Run.regionO (D := [some 39]) [true] rfl rfl rfl (fun Z hZ => ?_)
  refine QD.e ((Ev.lss rfl rfl).as (show _ = Value.bool true from rfl)) dc rfl ?_
  refine QD.nil (hZ _ ?_)
  clear hZ Z
  repeat (first | refine Run.seq ?_ | refine Run.skip ?_ | refine Run.block ?_ | refine Run.cond_t rfl ?_)
  refine Run.regionO (D := [some 40, some 9]) [true, true] rfl rfl rfl (fun Z hZ => ?_)
  iterate 2 refine q1 dc rfl rfl ?_
  refine QD.nil (hZ _ ?_)
  clear hZ Z
  repeat refine Run.seq ?_
  refine Run.regionO (D := [some 41, some 42, some 43]) [true, true, true] rfl rfl rfl (fun Z hZ => ?_)
  iterate 2 refine q1 dc rfl rfl ?_
  refine QD.e ((Ev.gtr rfl rfl).as (show _ = Value.bool false from rfl)) dc rfl ?_
  refine QD.nil (hZ _ ?_)
  clear hZ Z
  repeat (first | refine Run.skip ?_ | refine Run.cond_f rfl ?_)
  refine Run.regionO (D := [some 46, some 47, some 48, some 49, some 50, some 51, some 52, some 53, some 54, some 55, some 56, some 4]) [true, true, true, true, true, true, true, true, true, true, true, true] rfl rfl rfl (fun Z hZ => ?_)
  iterate 4 refine q1 dc rfl rfl ?_
  refine QD.e (Ev.mulK (r := (6 * 1 : Int)) rfl rfl dc) dc rfl ?_
  refine QD.e (Ev.subK (r := (18 - 6 * 1 : Int)) rfl rfl dc) dc rfl ?_
  refine QD.e (Ev.shrK (r := (((A * 256 * 256) / 2 ^ (18 - 6 * 1) : Nat) : Int)) rfl rfl dc dc (shrL (A * 256 * 256) (18 - 6 * 1))) dc rfl ?_
  refine QD.e (Ev.andK (a := (A * 256 * 256) / 2 ^ (18 - 6 * 1)) (b := 63) (c := A % 4 * 16) rfl rfl (by show _ < 18446744073709551616; omega) dc (by rw [and63] <;> omega) (wI (by omega) (by omega))) dc rfl ?_
  refine QD.e ((Ev.indexT (s := b64A) T rfl rfl rfl (by omega) (by show _ < (64 : Int); omega)).as (b64iy (n := A % 4 * 16) (by omega))) dc rfl ?_
  refine QD.e ((Ev.convRune T rfl rfl rfl).as (show _ = str [b64c (A % 4 * 16)] from congrArg str (b64c_enc _))) dc rfl ?_
  refine QD.e (Ev.catS rfl rfl (by simp only [List.length_append, List.length_cons, List.length_nil]; omega)) dc rfl ?_
  refine q1 dc rfl rfl ?_
  refine QD.nil (hZ _ ?_)
  clear hZ Z
  refine Run.inBlock ?_
  refine Run.regionO (D := [some 57, some 38]) [true, true] rfl rfl rfl (fun Z hZ => ?_)
  refine QD.e (Ev.addI rfl rfl (wI om om)) dc rfl ?_
  refine q1 dc rfl rfl ?_
  refine QD.nil (hZ _ ?_)
  clear hZ Z
  skip
  refine Run.keep [0, 3, 4, 5, 6, 7, 38] [_, _, _, _, _, _, _] rfl ?_
  refine Run.inLoop ?_
  refine Run.seq ?_
  refine Run.regionO (D := [some 39]) [true] rfl rfl rfl (fun Z hZ => ?_)
  refine QD.e ((Ev.lss rfl rfl).as (show _ = Value.bool true from rfl)) dc rfl ?_
  refine QD.nil (hZ _ ?_)
  clear hZ Z
  repeat (first | refine Run.seq ?_ | refine Run.skip ?_ | refine Run.block ?_ | refine Run.cond_t rfl ?_)
  refine Run.regionO (D := [some 40, some 9]) [true, true] rfl rfl rfl (fun Z hZ => ?_)
  iterate 2 refine q1 dc rfl rfl ?_
  refine QD.nil (hZ _ ?_)
  clear hZ Z
  repeat refine Run.seq ?_
  refine Run.regionO (D := [some 41, some 42, some 43]) [true, true, true] rfl rfl rfl (fun Z hZ => ?_)
  iterate 2 refine q1 dc rfl rfl ?_
  refine QD.e ((Ev.gtr rfl rfl).as (show _ = Value.bool true from rfl)) dc rfl ?_
  refine QD.nil (hZ _ ?_)
  clear hZ Z
  repeat (first | refine Run.seq ?_ | refine Run.cond_t rfl ?_)
  refine Run.regionO (D := [some 44, some 45, some 4]) [true, true, true] rfl rfl rfl (fun Z hZ => ?_)
  refine q1 dc rfl rfl ?_
  refine QD.e (Ev.catS rfl rfl (by simp only [List.length_append, List.length_cons, List.length_nil]; omega)) dc rfl ?_
  refine q1 dc rfl rfl ?_
  refine QD.nil (hZ _ ?_)
  clear hZ Z
  refine Run.exit rfl ?_
  refine Run.regionO (D := [some 57, some 38]) [true, true] rfl rfl rfl (fun Z hZ => ?_)
  refine QD.e (Ev.addI rfl rfl (wI om om)) dc rfl ?_
  refine q1 dc rfl rfl ?_
  refine QD.nil (hZ _ ?_)
  clear hZ Z
  skip
  refine Run.keep [0, 3, 4, 5, 6, 7, 38] [_, _, _, _, _, _, _] rfl ?_
  refine Run.inLoop ?_
  refine Run.seq ?_
  refine Run.regionO (D := [some 39]) [true] rfl rfl rfl (fun Z hZ => ?_)
  refine QD.e ((Ev.lss rfl rfl).as (show _ = Value.bool true from rfl)) dc rfl ?_
  refine QD.nil (hZ _ ?_)
  clear hZ Z
  repeat (first | refine Run.seq ?_ | refine Run.skip ?_ | refine Run.block ?_ | refine Run.cond_t rfl ?_)
  refine Run.regionO (D := [some 40, some 9]) [true, true] rfl rfl rfl (fun Z hZ => ?_)
  iterate 2 refine q1 dc rfl rfl ?_
  refine QD.nil (hZ _ ?_)
  clear hZ Z
  repeat refine Run.seq ?_
  refine Run.regionO (D := [some 41, some 42, some 43]) [true, true, true] rfl rfl rfl (fun Z hZ => ?_)
  iterate 2 refine q1 dc rfl rfl ?_
  refine QD.e ((Ev.gtr rfl rfl).as (show _ = Value.bool true from rfl)) dc rfl ?_
  refine QD.nil (hZ _ ?_)
  clear hZ Z
  repeat (first | refine Run.seq ?_ | refine Run.cond_t rfl ?_)
  refine Run.regionO (D := [some 44, some 45, some 4]) [true, true, true] rfl rfl rfl (fun Z hZ => ?_)
  refine q1 dc rfl rfl ?_
  refine QD.e (Ev.catS rfl rfl (by simp only [List.length_append, List.length_cons, List.length_nil]; omega)) dc rfl ?_
  refine q1 dc rfl rfl ?_
  refine QD.nil (hZ _ ?_)
  clear hZ Z
  refine Run.exit rfl ?_
  refine Run.regionO (D := [some 57, some 38]) [true, true] rfl rfl rfl (fun Z hZ => ?_)
  refine QD.e (Ev.addI rfl rfl (wI om om)) dc rfl ?_
  refine q1 dc rfl rfl ?_
  refine QD.nil (hZ _ ?_)
  clear hZ Z
  skip
  refine Run.keep [0, 3, 4, 5, 6, 7, 38] [_, _, _, _, _, _, _] rfl ?_
  refine Run.inLoop ?_
  refine Run.seq ?_
  refine Run.regionO (D := [some 39]) [true] rfl rfl rfl (fun Z hZ => ?_)
  refine QD.e ((Ev.lss rfl rfl).as (show _ = Value.bool false from rfl)) dc rfl ?_
  refine QD.nil (hZ _ ?_)
  clear hZ Z
  repeat (first | refine Run.seq ?_ | refine Run.inBlock ?_ | refine Run.exit rfl ?_ | refine Run.cond_f rfl ?_)
  refine Run.regionO (D := [some 14, some 15, some 5]) [true, true, true] rfl rfl rfl (fun Z hZ => ?_)
  refine q1 dc rfl rfl ?_
  refine QD.e (Ev.addK (r := ((at0 + 3 : Nat) : Int)) rfl rfl (by rw [wI (by omega) (by omega)]; omega)) dc rfl ?_
  refine q1 dc rfl rfl ?_
  refine QD.nil (hZ _ ?_)
  clear hZ Z
  skip
  refine Run.keep [0, 3, 4, 5] [_, _, _, _] rfl ?_
  exact ih (([] : Bs)).length _ _ _ (by simp only [List.length_cons, List.length_nil]; omega) ⟨at0 + 3, ([] : Bs), _, rfl, hd3, ho3, by omega, rfl, rfl, rfl⟩
 | [a, b], hd, hdl, hget, hout, hol =>
  have g0 := congrArg UInt8.toNat (hget 0)
  have g1 := congrArg UInt8.toNat (hget 1)
  simp only [List.length_cons, List.length_nil] at hdl
  have la := a.toNat_lt
  have lb := b.toNat_lt
  rw [show [a, b].getD 0 0 = a from rfl] at g0
  rw [show [a, b].getD 1 0 = b from rfl] at g1
  simp only [b64, List.length_cons, List.length_nil] at hol
  have hd3 : s.drop (at0 + 3) = [] := List.drop_eq_nil_of_le (by omega)
  have ho3 : out ++ [b64c (a.toNat / 4)] ++ [b64c (a.toNat % 4 * 16 + b.toNat / 16)] ++ [b64c (b.toNat % 16 * 4)] ++ [61] ++ b64 [] = b64 s := by rw [← hout]; simp [b64]
  generalize a.toNat = A at *
  generalize b.toNat = B at *
  refine Run.regionO (D := [some 10, some 11, some 12, some 13]) [true, true, true, true] rfl rfl rfl (fun Z hZ => ?_)
  iterate 2 refine q1 dc rfl rfl ?_
  refine QD.e (Ev.lenS T rfl rfl) dc rfl ?_
  refine qt (Ev.lss rfl rfl) (by omega) dc rfl ?_
  refine QD.nil (hZ _ ?_)
  clear hZ Z
  repeat (first | refine Run.seq ?_ | refine Run.skip ?_ | refine Run.block ?_ | refine Run.cond_t rfl ?_)
  refine Run.regionO (D := [some 16, some 17, some 18, some 19, some 20, some 6, some 7]) [true, true, true, true, true, true, true] rfl rfl rfl (fun Z hZ => ?_)
  refine q1 dc rfl rfl ?_
  refine QD.e (Ev.lenS T rfl rfl) dc rfl ?_
  refine q1 dc rfl rfl ?_
  refine QD.e (Ev.subK (r := ((s.length - at0 : Nat) : Int)) rfl rfl (by rw [wI (by omega) (by omega)]; omega)) dc rfl ?_
  refine QD.e ((Ev.min2 rfl rfl).as (show _ = Value.int .i64 ((2 : Nat) : Int) from congrArg (Value.int .i64) (by omega))) dc rfl ?_
  iterate 2 refine q1 dc rfl rfl ?_
  refine QD.nil (hZ _ ?_)
  clear hZ Z
  repeat refine Run.seq ?_
  refine Run.regionO (D := [some 21]) [true] rfl rfl rfl (fun Z hZ => ?_)
  refine q1 dc rfl rfl ?_
  refine QD.nil (hZ _ ?_)
  clear hZ Z
  refine Run.block ?_
  refine Run.keep [0, 3, 4, 5, 6, 7, 21] [_, _, _, _, _, _, _] rfl ?_
  refine Run.loop ?_
  refine Run.seq ?_
  refine Run.regionO (D := [some 22]) [true] rfl rfl rfl (fun Z hZ => ?_)
  refine QD.e ((Ev.lss rfl rfl).as (show _ = Value.bool true from rfl)) dc rfl ?_
  refine QD.nil (hZ _ ?_)
  clear hZ Z
  repeat (first | refine Run.seq ?_ | refine Run.skip ?_ | refine Run.block ?_ | refine Run.cond_t rfl ?_)
  refine Run.regionO (D := [some 23, some 8]) [true, true] rfl rfl rfl (fun Z hZ => ?_)
  iterate 2 refine q1 dc rfl rfl ?_
  refine QD.nil (hZ _ ?_)
  clear hZ Z
  refine Run.seq ?_
  refine Run.regionO (D := [some 24, some 25, some 6]) [true, true, true] rfl rfl rfl (fun Z hZ => ?_)
  refine q1 dc rfl rfl ?_
  refine QD.e (Ev.shlK (r := ((0 * 256 : Nat) : Int)) rfl rfl dc dc (by show IntKind.i64.wrap (((0 : Nat) : Int) * 256) = _; rw [wI (by omega) (by omega)]; omega)) dc rfl ?_
  refine q1 dc rfl rfl ?_
  refine QD.nil (hZ _ ?_)
  clear hZ Z
  refine Run.seq ?_
  refine Run.regionO (D := [some 26, some 27, some 28]) [true, true, true] rfl rfl rfl (fun Z hZ => ?_)
  iterate 2 refine q1 dc rfl rfl ?_
  refine QD.e ((Ev.lss rfl rfl).as (show _ = Value.bool true from rfl)) dc rfl ?_
  refine QD.nil (hZ _ ?_)
  clear hZ Z
  refine Run.cond_t rfl ?_
  refine Run.regionO (D := [some 29, some 30, some 31, some 32, some 33, some 34, some 35, some 36, some 6]) [true, true, true, true, true, true, true, true, true] rfl rfl rfl (fun Z hZ => ?_)
  iterate 4 refine q1 dc rfl rfl ?_
  refine QD.e (Ev.addK (r := ((at0 + 0 : Nat) : Int)) rfl rfl (by rw [wI (by omega) (by omega)]; omega)) dc rfl ?_
  refine QD.e ((Ev.indexT (s := s) T rfl rfl rfl (by omega) (by omega)).as (show _ = Value.int .u8 ((A : Nat) : Int) from by show Value.int .u8 (((s.getD _ 0).toNat : Nat) : Int) = _; rw [Int.toNat_natCast, g0])) dc rfl ?_
  refine QD.e (Ev.conv (r := ((A : Nat) : Int)) T rfl rfl rfl (wI (by omega) (by omega))) dc rfl ?_
  refine QD.e (Ev.orK (a := 0 * 256) (b := A) (c := A) rfl rfl (by show _ < 18446744073709551616; omega) (by show _ < 18446744073709551616; omega) (by rw [show 0 * 256 = 0 * 2 ^ 8 from rfl, orSh 8 (by omega)] <;> omega) (wI (by omega) (by omega))) dc rfl ?_
  refine q1 dc rfl rfl ?_
  refine QD.nil (hZ _ ?_)
  clear hZ Z
  refine Run.inBlock ?_
  refine Run.regionO (D := [some 37, some 21]) [true, true] rfl rfl rfl (fun Z hZ => ?_)
  refine QD.e (Ev.addI rfl rfl (wI om om)) dc rfl ?_
  refine q1 dc rfl rfl ?_
  refine QD.nil (hZ _ ?_)
  clear hZ Z
  skip
  refine Run.keep [0, 3, 4, 5, 6, 7, 21] [_, _, _, _, _, _, _] rfl ?_
  refine Run.inLoop ?_
  refine Run.seq ?_
  refine Run.regionO (D := [some 22]) [true] rfl rfl rfl (fun Z hZ => ?_)
  refine QD.e ((Ev.lss rfl rfl).as (show _ = Value.bool true from rfl)) dc rfl ?_
  refine QD.nil (hZ _ ?_)
  clear hZ Z
  repeat (first | refine Run.seq ?_ | refine Run.skip ?_ | refine Run.block ?_ | refine Run.cond_t rfl ?_)
  refine Run.regionO (D := [some 23, some 8]) [true, true] rfl rfl rfl (fun Z hZ => ?_)
  iterate 2 refine q1 dc rfl rfl ?_
  refine QD.nil (hZ _ ?_)
  clear hZ Z
  refine Run.seq ?_
  refine Run.regionO (D := [some 24, some 25, some 6]) [true, true, true] rfl rfl rfl (fun Z hZ => ?_)
  refine q1 dc rfl rfl ?_
  refine QD.e (Ev.shlK (r := ((A * 256 : Nat) : Int)) rfl rfl dc dc (by show IntKind.i64.wrap (((A : Nat) : Int) * 256) = _; rw [wI (by omega) (by omega)]; omega)) dc rfl ?_
  refine q1 dc rfl rfl ?_
  refine QD.nil (hZ _ ?_)
  clear hZ Z
  refine Run.seq ?_
  refine Run.regionO (D := [some 26, some 27, some 28]) [true, true, true] rfl rfl rfl (fun Z hZ => ?_)
  iterate 2 refine q1 dc rfl rfl ?_
  refine QD.e ((Ev.lss rfl rfl).as (show _ = Value.bool true from rfl)) dc rfl ?_
  refine QD.nil (hZ _ ?_)
  clear hZ Z
  refine Run.cond_t rfl ?_
  refine Run.regionO (D := [some 29, some 30, some 31, some 32, some 33, some 34, some 35, some 36, some 6]) [true, true, true, true, true, true, true, true, true] rfl rfl rfl (fun Z hZ => ?_)
  iterate 4 refine q1 dc rfl rfl ?_
  refine QD.e (Ev.addK (r := ((at0 + 1 : Nat) : Int)) rfl rfl (by rw [wI (by omega) (by omega)]; omega)) dc rfl ?_
  refine QD.e ((Ev.indexT (s := s) T rfl rfl rfl (by omega) (by omega)).as (show _ = Value.int .u8 ((B : Nat) : Int) from by show Value.int .u8 (((s.getD _ 0).toNat : Nat) : Int) = _; rw [Int.toNat_natCast, g1])) dc rfl ?_
  refine QD.e (Ev.conv (r := ((B : Nat) : Int)) T rfl rfl rfl (wI (by omega) (by omega))) dc rfl ?_
  refine QD.e (Ev.orK (a := A * 256) (b := B) (c := A * 256 + B) rfl rfl (by show _ < 18446744073709551616; omega) (by show _ < 18446744073709551616; omega) (by rw [show A * 256 = A * 2 ^ 8 from rfl, orSh 8 (by omega)] <;> omega) (wI (by omega) (by omega))) dc rfl ?_
  refine q1 dc rfl rfl ?_
  refine QD.nil (hZ _ ?_)
  clear hZ Z
  refine Run.inBlock ?_
  refine Run.regionO (D := [some 37, some 21]) [true, true] rfl rfl rfl (fun Z hZ => ?_)
  refine QD.e (Ev.addI rfl rfl (wI om om)) dc rfl ?_
  refine q1 dc rfl rfl ?_
  refine QD.nil (hZ _ ?_)
  clear hZ Z
  skip
  refine Run.keep [0, 3, 4, 5, 6, 7, 21] [_, _, _, _, _, _, _] rfl ?_
  refine Run.inLoop ?_
  refine Run.seq ?_
  refine Run.regionO (D := [some 22]) [true] rfl rfl rfl (fun Z hZ => ?_)
  refine QD.e ((Ev.lss rfl rfl).as (show _ = Value.bool true from rfl)) dc rfl ?_
  refine QD.nil (hZ _ ?_)
  clear hZ Z
  repeat (first | refine Run.seq ?_ | refine Run.skip ?_ | refine Run.block ?_ | refine Run.cond_t rfl ?_)
  refine Run.regionO (D := [some 23, some 8]) [true, true] rfl rfl rfl (fun Z hZ => ?_)
  iterate 2 refine q1 dc rfl rfl ?_
  refine QD.nil (hZ _ ?_)
  clear hZ Z
  refine Run.seq ?_
  refine Run.regionO (D := [some 24, some 25, some 6]) [true, true, true] rfl rfl rfl (fun Z hZ => ?_)
  refine q1 dc rfl rfl ?_
  refine QD.e (Ev.shlK (r := (((A * 256 + B) * 256 : Nat) : Int)) rfl rfl dc dc (by show IntKind.i64.wrap ((((A * 256 + B) : Nat) : Int) * 256) = _; rw [wI (by omega) (by omega)]; omega)) dc rfl ?_
  refine q1 dc rfl rfl ?_
  refine QD.nil (hZ _ ?_)
  clear hZ Z
  refine Run.seq ?_
  refine Run.regionO (D := [some 26, some 27, some 28]) [true, true, true] rfl rfl rfl (fun Z hZ => ?_)
  iterate 2 refine q1 dc rfl rfl ?_
  refine QD.e ((Ev.lss rfl rfl).as (show _ = Value.bool false from rfl)) dc rfl ?_
  refine QD.nil (hZ _ ?_)
  clear hZ Z
  repeat (first | refine Run.skip ?_ | refine Run.inBlock ?_ | refine Run.cond_f rfl ?_)
  refine Run.regionO (D := [some 37, some 21]) [true, true] rfl rfl rfl (fun Z hZ => ?_)
  refine QD.e (Ev.addI rfl rfl (wI om om)) dc rfl ?_
  refine q1 dc rfl rfl ?_
  refine QD.nil (hZ _ ?_)
  clear hZ Z
  skip
  refine Run.keep [0, 3, 4, 5, 6, 7, 21] [_, _, _, _, _, _, _] rfl ?_
  refine Run.inLoop ?_
  refine Run.seq ?_
  refine Run.regionO (D := [some 22]) [true] rfl rfl rfl (fun Z hZ => ?_)
  refine QD.e ((Ev.lss rfl rfl).as (show _ = Value.bool false from rfl)) dc rfl ?_
  refine QD.nil (hZ _ ?_)
  clear hZ Z
  repeat (first | refine Run.seq ?_ | refine Run.exit rfl ?_ | refine Run.cond_f rfl ?_)
  refine Run.regionO (D := [some 38]) [true] rfl rfl rfl (fun Z hZ => ?_)
  refine q1 dc rfl rfl ?_
  refine QD.nil (hZ _ ?_)
  clear hZ Z
  refine Run.block ?_
  refine Run.keep [0, 3, 4, 5, 6, 7, 38] [_, _, _, _, _, _, _] rfl ?_
  refine Run.loop ?_
  refine Run.seq ?_
  refine Run.regionO (D := [some 39]) [true] rfl rfl rfl (fun Z hZ => ?_)
  refine QD.e ((Ev.lss rfl rfl).as (show _ = Value.bool true from rfl)) dc rfl ?_
  refine QD.nil (hZ _ ?_)
  clear hZ Z
  repeat (first | refine Run.seq ?_ | refine Run.skip ?_ | refine Run.block ?_ | refine Run.cond_t rfl ?_)
  refine Run.regionO (D := [some 40, some 9]) [true, true] rfl rfl rfl (fun Z hZ => ?_)
  iterate 2 refine q1 dc rfl rfl ?_
  refine QD.nil (hZ _ ?_)
  clear hZ Z
  repeat refine Run.seq ?_
  refine Run.regionO (D := [some 41, some 42, some 43]) [true, true, true] rfl rfl rfl (fun Z hZ => ?_)
  iterate 2 refine q1 dc rfl rfl ?_
  refine QD.e ((Ev.gtr rfl rfl).as (show _ = Value.bool false from rfl)) dc rfl ?_
  refine QD.nil (hZ _ ?_)
  clear hZ Z
  repeat (first | refine Run.skip ?_ | refine Run.cond_f rfl ?_)
  refine Run.regionO (D := [some 46, some 47, some 48, some 49, some 50, some 51, some 52, some 53, some 54, some 55, some 56, some 4]) [true, true, true, true, true, true, true, true, true, true, true, true] rfl rfl rfl (fun Z hZ => ?_)
  iterate 4 refine q1 dc rfl rfl ?_
  refine QD.e (Ev.mulK (r := (6 * 0 : Int)) rfl rfl dc) dc rfl ?_
  refine QD.e (Ev.subK (r := (18 - 6 * 0 : Int)) rfl rfl dc) dc rfl ?_
  refine QD.e (Ev.shrK (r := ((((A * 256 + B) * 256) / 2 ^ (18 - 6 * 0) : Nat) : Int)) rfl rfl dc dc (shrL ((A * 256 + B) * 256) (18 - 6 * 0))) dc rfl ?_
  refine QD.e (Ev.andK (a := ((A * 256 + B) * 256) / 2 ^ (18 - 6 * 0)) (b := 63) (c := A / 4) rfl rfl (by show _ < 18446744073709551616; omega) dc (by rw [and63] <;> omega) (wI (by omega) (by omega))) dc rfl ?_
  refine QD.e ((Ev.indexT (s := b64A) T rfl rfl rfl (by omega) (by show _ < (64 : Int); omega)).as (b64iy (n := A / 4) (by omega))) dc rfl ?_
  refine QD.e ((Ev.convRune T rfl rfl rfl).as (show _ = str [b64c (A / 4)] from congrArg str (b64c_enc _))) dc rfl ?_
  refine QD.e (Ev.catS rfl rfl (by simp only [List.length_append, List.length_cons, List.length_nil]; omega)) dc rfl ?_
  refine q1 dc rfl rfl ?_
  refine QD.nil (hZ _ ?_)
  clear hZ Z
  refine Run.inBlock ?_
  refine Run.regionO (D := [some 57, some 38]) [true, true] rfl rfl rfl (fun Z hZ => ?_)
  refine QD.e (Ev.addI rfl rfl (wI om om)) dc rfl ?_
  refine q1 dc rfl rfl ?_
  refine QD.nil (hZ _ ?_)
  clear hZ Z
  skip
  refine Run.keep [0, 3, 4, 5, 6, 7, 38] [_, _, _, _, _, _, _] rfl ?_
  refine Run.inLoop ?_
  refine Run.seq ?_
  refine Run.regionO (D := [some 39]) [true] rfl rfl rfl (fun Z hZ => ?_)
  refine QD.e ((Ev.lss rfl rfl).as (show _ = Value.bool true from rfl)) dc rfl ?_
  refine QD.nil (hZ _ ?_)
  clear hZ Z
  repeat (first | refine Run.seq ?_ | refine Run.skip ?_ | refine Run.block ?_ | refine Run.cond_t rfl ?_)
  refine Run.regionO (D := [some 40, some 9]) [true, true] rfl rfl rfl (fun Z hZ => ?_)
  iterate 2 refine q1 dc rfl rfl ?_
  refine QD.nil (hZ _ ?_)
  clear hZ Z
  repeat refine Run.seq ?_
  refine Run.regionO (D := [some 41, some 42, some 43]) [true, true, true] rfl rfl rfl (fun Z hZ => ?_)
  iterate 2 refine q1 dc rfl rfl ?_
  refine QD.e ((Ev.gtr rfl rfl).as (show _ = Value.bool false from rfl)) dc rfl ?_
  refine QD.nil (hZ _ ?_)
  clear hZ Z
  repeat (first | refine Run.skip ?_ | refine Run.cond_f rfl ?_)
  refine Run.regionO (D := [some 46, some 47, some 48, some 49, some 50, some 51, some 52, some 53, some 54, some 55, some 56, some 4]) [true, true, true, true, true, true, true, true, true, true, true, true] rfl rfl rfl (fun Z hZ => ?_)
  iterate 4 refine q1 dc rfl rfl ?_
  refine QD.e (Ev.mulK (r := (6 * 1 : Int)) rfl rfl dc) dc rfl ?_
  refine QD.e (Ev.subK (r := (18 - 6 * 1 : Int)) rfl rfl dc) dc rfl ?_
  refine QD.e (Ev.shrK (r := ((((A * 256 + B) * 256) / 2 ^ (18 - 6 * 1) : Nat) : Int)) rfl rfl dc dc (shrL ((A * 256 + B) * 256) (18 - 6 * 1))) dc rfl ?_
  refine QD.e (Ev.andK (a := ((A * 256 + B) * 256) / 2 ^ (18 - 6 * 1)) (b := 63) (c := A % 4 * 16 + B / 16) rfl rfl (by show _ < 18446744073709551616; omega) dc (by rw [and63] <;> omega) (wI (by omega) (by omega))) dc rfl ?_
  refine QD.e ((Ev.indexT (s := b64A) T rfl rfl rfl (by omega) (by show _ < (64 : Int); omega)).as (b64iy (n := A % 4 * 16 + B / 16) (by omega))) dc rfl ?_
  refine QD.e ((Ev.convRune T rfl rfl rfl).as (show _ = str [b64c (A % 4 * 16 + B / 16)] from congrArg str (b64c_enc _))) dc rfl ?_
  refine QD.e (Ev.catS rfl rfl (by simp only [List.length_append, List.length_cons, List.length_nil]; omega)) dc rfl ?_
  refine q1 dc rfl rfl ?_
  refine QD.nil (hZ _ ?_)
  clear hZ Z
  refine Run.inBlock ?_
  refine Run.regionO (D := [some 57, some 38]) [true, true] rfl rfl rfl (fun Z hZ => ?_)
  refine QD.e (Ev.addI rfl rfl (wI om om)) dc rfl ?_
  refine q1 dc rfl rfl ?_
  refine QD.nil (hZ _ ?_)
  clear hZ Z
  skip
  refine Run.keep [0, 3, 4, 5, 6, 7, 38] [_, _, _, _, _, _, _] rfl ?_
  refine Run.inLoop ?_
  refine Run.seq ?_
  refine Run.regionO (D := [some 39]) [true] rfl rfl rfl (fun Z hZ => ?_)
  refine QD.e ((Ev.lss rfl rfl).as (show _ = Value.bool true from rfl)) dc rfl ?_
  refine QD.nil (hZ _ ?_)
  clear hZ Z
  repeat (first | refine Run.seq ?_ | refine Run.skip ?_ | refine Run.block ?_ | refine Run.cond_t rfl ?_)
  refine Run.regionO (D := [some 40, some 9]) [true, true] rfl rfl rfl (fun Z hZ => ?_)
  iterate 2 refine q1 dc rfl rfl ?_
  refine QD.nil (hZ _ ?_)
  clear hZ Z
  repeat refine Run.seq ?_
  refine Run.regionO (D := [some 41, some 42, some 43]) [true, true, true] rfl rfl rfl (fun Z hZ => ?_)
  iterate 2 refine q1 dc rfl rfl ?_
  refine QD.e ((Ev.gtr rfl rfl).as (show _ = Value.bool false from rfl)) dc rfl ?_
  refine QD.nil (hZ _ ?_)
  clear hZ Z
  repeat (first | refine Run.skip ?_ | refine Run.cond_f rfl ?_)
  refine Run.regionO (D := [some 46, some 47, some 48, some 49, some 50, some 51, some 52, some 53, some 54, some 55, some 56, some 4]) [true, true, true, true, true, true, true, true, true, true, true, true] rfl rfl rfl (fun Z hZ => ?_)
  iterate 4 refine q1 dc rfl rfl ?_
  refine QD.e (Ev.mulK (r := (6 * 2 : Int)) rfl rfl dc) dc rfl ?_
  refine QD.e (Ev.subK (r := (18 - 6 * 2 : Int)) rfl rfl dc) dc rfl ?_
  refine QD.e (Ev.shrK (r := ((((A * 256 + B) * 256) / 2 ^ (18 - 6 * 2) : Nat) : Int)) rfl rfl dc dc (shrL ((A * 256 + B) * 256) (18 - 6 * 2))) dc rfl ?_
  refine QD.e (Ev.andK (a := ((A * 256 + B) * 256) / 2 ^ (18 - 6 * 2)) (b := 63) (c := B % 16 * 4) rfl rfl (by show _ < 18446744073709551616; omega) dc (by rw [and63] <;> omega) (wI (by omega) (by omega))) dc rfl ?_
  refine QD.e ((Ev.indexT (s := b64A) T rfl rfl rfl (by omega) (by show _ < (64 : Int); omega)).as (b64iy (n := B % 16 * 4) (by omega))) dc rfl ?_
  refine QD.e ((Ev.convRune T rfl rfl rfl).as (show _ = str [b64c (B % 16 * 4)] from congrArg str (b64c_enc _))) dc rfl ?_
  refine QD.e (Ev.catS rfl rfl (by simp only [List.length_append, List.length_cons, List.length_nil]; omega)) dc rfl ?_
  refine q1 dc rfl rfl ?_
  refine QD.nil (hZ _ ?_)
  clear hZ Z
  refine Run.inBlock ?_
  refine Run.regionO (D := [some 57, some 38]) [true, true] rfl rfl rfl (fun Z hZ => ?_)
  refine QD.e (Ev.addI rfl rfl (wI om om)) dc rfl ?_
  refine q1 dc rfl rfl ?_
  refine QD.nil (hZ _ ?_)
  clear hZ Z
  skip
  refine Run.keep [0, 3, 4, 5, 6, 7, 38] [_, _, _, _, _, _, _] rfl ?_
  refine Run.inLoop ?_
  refine Run.seq ?_
  refine Run.regionO (D := [some 39]) [true] rfl rfl rfl (fun Z hZ => ?_)
  refine QD.e ((Ev.lss rfl rfl).as (show _ = Value.bool true from rfl)) dc rfl ?_
  refine QD.nil (hZ _ ?_)
  clear hZ Z
  repeat (first | refine Run.seq ?_ | refine Run.skip ?_ | refine Run.block ?_ | refine Run.cond_t rfl ?_)
  refine Run.regionO (D := [some 40, some 9]) [true, true] rfl rfl rfl (fun Z hZ => ?_)
  iterate 2 refine q1 dc rfl rfl ?_
  refine QD.nil (hZ _ ?_)
  clear hZ Z
  repeat refine Run.seq ?_
  refine Run.regionO (D := [some 41, some 42, some 43]) [true, true, true] rfl rfl rfl (fun Z hZ => ?_)
  iterate 2 refine q1 dc rfl rfl ?_
  refine QD.e ((Ev.gtr rfl rfl).as (show _ = Value.bool true from rfl)) dc rfl ?_
  refine QD.nil (hZ _ ?_)
  clear hZ Z
  repeat (first | refine Run.seq ?_ | refine Run.cond_t rfl ?_)
  refine Run.regionO (D := [some 44, some 45, some 4]) [true, true, true] rfl rfl rfl (fun Z hZ => ?_)
  refine q1 dc rfl rfl ?_
  refine QD.e (Ev.catS rfl rfl (by simp only [List.length_append, List.length_cons, List.length_nil]; omega)) dc rfl ?_
  refine q1 dc rfl rfl ?_
  refine QD.nil (hZ _ ?_)
  clear hZ Z
  refine Run.exit rfl ?_
  refine Run.regionO (D := [some 57, some 38]) [true, true] rfl rfl rfl (fun Z hZ => ?_)
  refine QD.e (Ev.addI rfl rfl (wI om om)) dc rfl ?_
  refine q1 dc rfl rfl ?_
  refine QD.nil (hZ _ ?_)
  clear hZ Z
  skip
  refine Run.keep [0, 3, 4, 5, 6, 7, 38] [_, _, _, _, _, _, _] rfl ?_
  refine Run.inLoop ?_
  refine Run.seq ?_
  refine Run.regionO (D := [some 39]) [true] rfl rfl rfl (fun Z hZ => ?_)
  refine QD.e ((Ev.lss rfl rfl).as (show _ = Value.bool false from rfl)) dc rfl ?_
  refine QD.nil (hZ _ ?_)
  clear hZ Z
  repeat (first | refine Run.seq ?_ | refine Run.inBlock ?_ | refine Run.exit rfl ?_ | refine Run.cond_f rfl ?_)
  refine Run.regionO (D := [some 14, some 15, some 5]) [true, true, true] rfl rfl rfl (fun Z hZ => ?_)
  refine q1 dc rfl rfl ?_
  refine QD.e (Ev.addK (r := ((at0 + 3 : Nat) : Int)) rfl rfl (by rw [wI (by omega) (by omega)]; omega)) dc rfl ?_
  refine q1 dc rfl rfl ?_
  refine QD.nil (hZ _ ?_)
  clear hZ Z
  skip
  refine Run.keep [0, 3, 4, 5] [_, _, _, _] rfl ?_
  exact ih (([] : Bs)).length _ _ _ (by simp only [List.length_cons, List.length_nil]; omega) ⟨at0 + 3, ([] : Bs), _, rfl, hd3, ho3, by omega, rfl, rfl, rfl⟩
 | a :: b :: c :: t, hd, hdl, hget, hout, hol =>
  have g0 := congrArg UInt8.toNat (hget 0)
  have g1 := congrArg UInt8.toNat (hget 1)
  have g2 := congrArg UInt8.toNat (hget 2)
  simp only [List.length_cons] at hdl
  have la := a.toNat_lt
  have lb := b.toNat_lt
  have lc := c.toNat_lt
  rw [show (a :: b :: c :: t).getD 0 0 = a from rfl] at g0
  rw [show (a :: b :: c :: t).getD 1 0 = b from rfl] at g1
  rw [show (a :: b :: c :: t).getD 2 0 = c from rfl] at g2
  simp only [b64, List.length_cons] at hol
  have hd3 : s.drop (at0 + 3) = t := by rw [← List.drop_drop, hd]; rfl
  have ho3 : out ++ [b64c (a.toNat / 4)] ++ [b64c (a.toNat % 4 * 16 + b.toNat / 16)] ++ [b64c (b.toNat % 16 * 4 + c.toNat / 64)] ++ [b64c (c.toNat % 64)] ++ b64 t = b64 s := by rw [← hout]; simp [b64]
  generalize a.toNat = A at *
  generalize b.toNat = B at *
  generalize c.toNat = D at *
  refine Run.regionO (D := [some 10, some 11, some 12, some 13]) [true, true, true, true] rfl rfl rfl (fun Z hZ => ?_)
  iterate 2 refine q1 dc rfl rfl ?_
  refine QD.e (Ev.lenS T rfl rfl) dc rfl ?_
  refine qt (Ev.lss rfl rfl) (by omega) dc rfl ?_
  refine QD.nil (hZ _ ?_)
  clear hZ Z
  repeat (first | refine Run.seq ?_ | refine Run.skip ?_ | refine Run.block ?_ | refine Run.cond_t rfl ?_)
  refine Run.regionO (D := [some 16, some 17, some 18, some 19, some 20, some 6, some 7]) [true, true, true, true, true, true, true] rfl rfl rfl (fun Z hZ => ?_)
  refine q1 dc rfl rfl ?_
  refine QD.e (Ev.lenS T rfl rfl) dc rfl ?_
  refine q1 dc rfl rfl ?_
  refine QD.e (Ev.subK (r := ((s.length - at0 : Nat) : Int)) rfl rfl (by rw [wI (by omega) (by omega)]; omega)) dc rfl ?_
  refine QD.e ((Ev.min2 rfl rfl).as (show _ = Value.int .i64 ((3 : Nat) : Int) from congrArg (Value.int .i64) (by omega))) dc rfl ?_
  iterate 2 refine q1 dc rfl rfl ?_
  refine QD.nil (hZ _ ?_)
  clear hZ Z
  repeat refine Run.seq ?_
  refine Run.regionO (D := [some 21]) [true] rfl rfl rfl (fun Z hZ => ?_)
  refine q1 dc rfl rfl ?_
  refine QD.nil (hZ _ ?_)
  clear hZ Z
  refine Run.block ?_
  refine Run.keep [0, 3, 4, 5, 6, 7, 21] [_, _, _, _, _, _, _] rfl ?_
  refine Run.loop ?_
  refine Run.seq ?_
  refine Run.regionO (D := [some 22]) [true] rfl rfl rfl (fun Z hZ => ?_)
  refine QD.e ((Ev.lss rfl rfl).as (show _ = Value.bool true from rfl)) dc rfl ?_
  refine QD.nil (hZ _ ?_)
  clear hZ Z
  repeat (first | refine Run.seq ?_ | refine Run.skip ?_ | refine Run.block ?_ | refine Run.cond_t rfl ?_)
  refine Run.regionO (D := [some 23, some 8]) [true, true] rfl rfl rfl (fun Z hZ => ?_)
  iterate 2 refine q1 dc rfl rfl ?_
  refine QD.nil (hZ _ ?_)
  clear hZ Z
  refine Run.seq ?_
  refine Run.regionO (D := [some 24, some 25, some 6]) [true, true, true] rfl rfl rfl (fun Z hZ => ?_)
  refine q1 dc rfl rfl ?_
  refine QD.e (Ev.shlK (r := ((0 * 256 : Nat) : Int)) rfl rfl dc dc (by show IntKind.i64.wrap (((0 : Nat) : Int) * 256) = _; rw [wI (by omega) (by omega)]; omega)) dc rfl ?_
  refine q1 dc rfl rfl ?_
  refine QD.nil (hZ _ ?_)
  clear hZ Z
  refine Run.seq ?_
  refine Run.regionO (D := [some 26, some 27, some 28]) [true, true, true] rfl rfl rfl (fun Z hZ => ?_)
  iterate 2 refine q1 dc rfl rfl ?_
  refine QD.e ((Ev.lss rfl rfl).as (show _ = Value.bool true from rfl)) dc rfl ?_
  refine QD.nil (hZ _ ?_)
  clear hZ Z
  refine Run.cond_t rfl ?_
  refine Run.regionO (D := [some 29, some 30, some 31, some 32, some 33, some 34, some 35, some 36, some 6]) [true, true, true, true, true, true, true, true, true] rfl rfl rfl (fun Z hZ => ?_)
  iterate 4 refine q1 dc rfl rfl ?_
  refine QD.e (Ev.addK (r := ((at0 + 0 : Nat) : Int)) rfl rfl (by rw [wI (by omega) (by omega)]; omega)) dc rfl ?_
  refine QD.e ((Ev.indexT (s := s) T rfl rfl rfl (by omega) (by omega)).as (show _ = Value.int .u8 ((A : Nat) : Int) from by show Value.int .u8 (((s.getD _ 0).toNat : Nat) : Int) = _; rw [Int.toNat_natCast, g0])) dc rfl ?_
  refine QD.e (Ev.conv (r := ((A : Nat) : Int)) T rfl rfl rfl (wI (by omega) (by omega))) dc rfl ?_
  refine QD.e (Ev.orK (a := 0 * 256) (b := A) (c := A) rfl rfl (by show _ < 18446744073709551616; omega) (by show _ < 18446744073709551616; omega) (by rw [show 0 * 256 = 0 * 2 ^ 8 from rfl, orSh 8 (by omega)] <;> omega) (wI (by omega) (by omega))) dc rfl ?_
  refine q1 dc rfl rfl ?_
  refine QD.nil (hZ _ ?_)
  clear hZ Z
  refine Run.inBlock ?_
  refine Run.regionO (D := [some 37, some 21]) [true, true] rfl rfl rfl (fun Z hZ => ?_)
  refine QD.e (Ev.addI rfl rfl (wI om om)) dc rfl ?_
  refine q1 dc rfl rfl ?_
  refine QD.nil (hZ _ ?_)
  clear hZ Z
  skip
  refine Run.keep [0, 3, 4, 5, 6, 7, 21] [_, _, _, _, _, _, _] rfl ?_
  refine Run.inLoop ?_
  refine Run.seq ?_
  refine Run.regionO (D := [some 22]) [true] rfl rfl rfl (fun Z hZ => ?_)
  refine QD.e ((Ev.lss rfl rfl).as (show _ = Value.bool true from rfl)) dc rfl ?_
  refine QD.nil (hZ _ ?_)
  clear hZ Z
  repeat (first | refine Run.seq ?_ | refine Run.skip ?_ | refine Run.block ?_ | refine Run.cond_t rfl ?_)
  refine Run.regionO (D := [some 23, some 8]) [true, true] rfl rfl rfl (fun Z hZ => ?_)
  iterate 2 refine q1 dc rfl rfl ?_
  refine QD.nil (hZ _ ?_)
  clear hZ Z
  refine Run.seq ?_
  refine Run.regionO (D := [some 24, some 25, some 6]) [true, true, true] rfl rfl rfl (fun Z hZ => ?_)
  refine q1 dc rfl rfl ?_
  refine QD.e (Ev.shlK (r := ((A * 256 : Nat) : Int)) rfl rfl dc dc (by show IntKind.i64.wrap (((A : Nat) : Int) * 256) = _; rw [wI (by omega) (by omega)]; omega)) dc rfl ?_
  refine q1 dc rfl rfl ?_
  refine QD.nil (hZ _ ?_)
  clear hZ Z
  refine Run.seq ?_
  refine Run.regionO (D := [some 26, some 27, some 28]) [true, true, true] rfl rfl rfl (fun Z hZ => ?_)
  iterate 2 refine q1 dc rfl rfl ?_
  refine QD.e ((Ev.lss rfl rfl).as (show _ = Value.bool true from rfl)) dc rfl ?_
  refine QD.nil (hZ _ ?_)
  clear hZ Z
  refine Run.cond_t rfl ?_
  refine Run.regionO (D := [some 29, some 30, some 31, some 32, some 33, some 34, some 35, some 36, some 6]) [true, true, true, true, true, true, true, true, true] rfl rfl rfl (fun Z hZ => ?_)
  iterate 4 refine q1 dc rfl rfl ?_
  refine QD.e (Ev.addK (r := ((at0 + 1 : Nat) : Int)) rfl rfl (by rw [wI (by omega) (by omega)]; omega)) dc rfl ?_
  refine QD.e ((Ev.indexT (s := s) T rfl rfl rfl (by omega) (by omega)).as (show _ = Value.int .u8 ((B : Nat) : Int) from by show Value.int .u8 (((s.getD _ 0).toNat : Nat) : Int) = _; rw [Int.toNat_natCast, g1])) dc rfl ?_
  refine QD.e (Ev.conv (r := ((B : Nat) : Int)) T rfl rfl rfl (wI (by omega) (by omega))) dc rfl ?_
  refine QD.e (Ev.orK (a := A * 256) (b := B) (c := A * 256 + B) rfl rfl (by show _ < 18446744073709551616; omega) (by show _ < 18446744073709551616; omega) (by rw [show A * 256 = A * 2 ^ 8 from rfl, orSh 8 (by omega)] <;> omega) (wI (by omega) (by omega))) dc rfl ?_
  refine q1 dc rfl rfl ?_
  refine QD.nil (hZ _ ?_)
  clear hZ Z
  refine Run.inBlock ?_
  refine Run.regionO (D := [some 37, some 21]) [true, true] rfl rfl rfl (fun Z hZ => ?_)
  refine QD.e (Ev.addI rfl rfl (wI om om)) dc rfl ?_
  refine q1 dc rfl rfl ?_
  refine QD.nil (hZ _ ?_)
  clear hZ Z
  skip
  refine Run.keep [0, 3, 4, 5, 6, 7, 21] [_, _, _, _, _, _, _] rfl ?_
  refine Run.inLoop ?_
  refine Run.seq ?_
  refine Run.regionO (D := [some 22]) [true] rfl rfl rfl (fun Z hZ => ?_)
  refine QD.e ((Ev.lss rfl rfl).as (show _ = Value.bool true from rfl)) dc rfl ?_
  refine QD.nil (hZ _ ?_)
  clear hZ Z
  repeat (first | refine Run.seq ?_ | refine Run.skip ?_ | refine Run.block ?_ | refine Run.cond_t rfl ?_)
  refine Run.regionO (D := [some 23, some 8]) [true, true] rfl rfl rfl (fun Z hZ => ?_)
  iterate 2 refine q1 dc rfl rfl ?_
  refine QD.nil (hZ _ ?_)
  clear hZ Z
  refine Run.seq ?_
  refine Run.regionO (D := [some 24, some 25, some 6]) [true, true, true] rfl rfl rfl (fun Z hZ => ?_)
  refine q1 dc rfl rfl ?_
  refine QD.e (Ev.shlK (r := (((A * 256 + B) * 256 : Nat) : Int)) rfl rfl dc dc (by show IntKind.i64.wrap ((((A * 256 + B) : Nat) : Int) * 256) = _; rw [wI (by omega) (by omega)]; omega)) dc rfl ?_
  refine q1 dc rfl rfl ?_
  refine QD.nil (hZ _ ?_)
  clear hZ Z
  refine Run.seq ?_
  refine Run.regionO (D := [some 26, some 27, some 28]) [true, true, true] rfl rfl rfl (fun Z hZ => ?_)
  iterate 2 refine q1 dc rfl rfl ?_
  refine QD.e ((Ev.lss rfl rfl).as (show _ = Value.bool true from rfl)) dc rfl ?_
  refine QD.nil (hZ _ ?_)
  clear hZ Z
  refine Run.cond_t rfl ?_
  refine Run.regionO (D := [some 29, some 30, some 31, some 32, some 33, some 34, some 35, some 36, some 6]) [true, true, true, true, true, true, true, true, true] rfl rfl rfl (fun Z hZ => ?_)
  iterate 4 refine q1 dc rfl rfl ?_
  refine QD.e (Ev.addK (r := ((at0 + 2 : Nat) : Int)) rfl rfl (by rw [wI (by omega) (by omega)]; omega)) dc rfl ?_
  refine QD.e ((Ev.indexT (s := s) T rfl rfl rfl (by omega) (by omega)).as (show _ = Value.int .u8 ((D : Nat) : Int) from by show Value.int .u8 (((s.getD _ 0).toNat : Nat) : Int) = _; rw [Int.toNat_natCast, g2])) dc rfl ?_
  refine QD.e (Ev.conv (r := ((D : Nat) : Int)) T rfl rfl rfl (wI (by omega) (by omega))) dc rfl ?_
  refine QD.e (Ev.orK (a := (A * 256 + B) * 256) (b := D) (c := (A * 256 + B) * 256 + D) rfl rfl (by show _ < 18446744073709551616; omega) (by show _ < 18446744073709551616; omega) (by rw [show (A * 256 + B) * 256 = (A * 256 + B) * 2 ^ 8 from rfl, orSh 8 (by omega)] <;> omega) (wI (by omega) (by omega))) dc rfl ?_
  refine q1 dc rfl rfl ?_
  refine QD.nil (hZ _ ?_)
  clear hZ Z
  refine Run.inBlock ?_
  refine Run.regionO (D := [some 37, some 21]) [true, true] rfl rfl rfl (fun Z hZ => ?_)
  refine QD.e (Ev.addI rfl rfl (wI om om)) dc rfl ?_
  refine q1 dc rfl rfl ?_
  refine QD.nil (hZ _ ?_)
  clear hZ Z
  skip
  refine Run.keep [0, 3, 4, 5, 6, 7, 21] [_, _, _, _, _, _, _] rfl ?_
  refine Run.inLoop ?_
  refine Run.seq ?_
  refine Run.regionO (D := [some 22]) [true] rfl rfl rfl (fun Z hZ => ?_)
  refine QD.e ((Ev.lss rfl rfl).as (show _ = Value.bool false from rfl)) dc rfl ?_
  refine QD.nil (hZ _ ?_)
  clear hZ Z
  repeat (first | refine Run.seq ?_ | refine Run.exit rfl ?_ | refine Run.cond_f rfl ?_)
  refine Run.regionO (D := [some 38]) [true] rfl rfl rfl (fun Z hZ => ?_)
  refine q1 dc rfl rfl ?_
  refine QD.nil (hZ _ ?_)
  clear hZ Z
  refine Run.block ?_
  refine Run.keep [0, 3, 4, 5, 6, 7, 38] [_, _, _, _, _, _, _] rfl ?_
  refine Run.loop ?_
  refine Run.seq ?_
  refine Run.regionO (D := [some 39]) [true] rfl rfl rfl (fun Z hZ => ?_)
  refine QD.e ((Ev.lss rfl rfl).as (show _ = Value.bool true from rfl)) dc rfl ?_
  refine QD.nil (hZ _ ?_)
  clear hZ Z
  repeat (first | refine Run.seq ?_ | refine Run.skip ?_ | refine Run.block ?_ | refine Run.cond_t rfl ?_)
  refine Run.regionO (D := [some 40, some 9]) [true, true] rfl rfl rfl (fun Z hZ => ?_)
  iterate 2 refine q1 dc rfl rfl ?_
  refine QD.nil (hZ _ ?_)
  clear hZ Z
  repeat refine Run.seq ?_
  refine Run.regionO (D := [some 41, some 42, some 43]) [true, true, true] rfl rfl rfl (fun Z hZ => ?_)
  iterate 2 refine q1 dc rfl rfl ?_
  refine QD.e ((Ev.gtr rfl rfl).as (show _ = Value.bool false from rfl)) dc rfl ?_
  refine QD.nil (hZ _ ?_)
  clear hZ Z
  repeat (first | refine Run.skip ?_ | refine Run.cond_f rfl ?_)
  refine Run.regionO (D := [some 46, some 47, some 48, some 49, some 50, some 51, some 52, some 53, some 54, some 55, some 56, some 4]) [true, true, true, true, true, true, true, true, true, true, true, true] rfl rfl rfl (fun Z hZ => ?_)
  iterate 4 refine q1 dc rfl rfl ?_
  refine QD.e (Ev.mulK (r := (6 * 0 : Int)) rfl rfl dc) dc rfl ?_
  refine QD.e (Ev.subK (r := (18 - 6 * 0 : Int)) rfl rfl dc) dc rfl ?_
  refine QD.e (Ev.shrK (r := ((((A * 256 + B) * 256 + D) / 2 ^ (18 - 6 * 0) : Nat) : Int)) rfl rfl dc dc (shrL ((A * 256 + B) * 256 + D) (18 - 6 * 0))) dc rfl ?_
  refine QD.e (Ev.andK (a := ((A * 256 + B) * 256 + D) / 2 ^ (18 - 6 * 0)) (b := 63) (c := A / 4) rfl rfl (by show _ < 18446744073709551616; omega) dc (by rw [and63] <;> omega) (wI (by omega) (by omega))) dc rfl ?_
  refine QD.e ((Ev.indexT (s := b64A) T rfl rfl rfl (by omega) (by show _ < (64 : Int); omega)).as (b64iy (n := A / 4) (by omega))) dc rfl ?_
  refine QD.e ((Ev.convRune T rfl rfl rfl).as (show _ = str [b64c (A / 4)] from congrArg str (b64c_enc _))) dc rfl ?_
  refine QD.e (Ev.catS rfl rfl (by simp only [List.length_append, List.length_cons, List.length_nil]; omega)) dc rfl ?_
  refine q1 dc rfl rfl ?_
  refine QD.nil (hZ _ ?_)
  clear hZ Z
  refine Run.inBlock ?_
  refine Run.regionO (D := [some 57, some 38]) [true, true] rfl rfl rfl (fun Z hZ => ?_)
  refine QD.e (Ev.addI rfl rfl (wI om om)) dc rfl ?_
  refine q1 dc rfl rfl ?_
  refine QD.nil (hZ _ ?_)
  clear hZ Z
  skip
  refine Run.keep [0, 3, 4, 5, 6, 7, 38] [_, _, _, _, _, _, _] rfl ?_
  refine Run.inLoop ?_
  refine Run.seq ?_
  refine Run.regionO (D := [some 39]) [true] rfl rfl rfl (fun Z hZ => ?_)
  refine QD.e ((Ev.lss rfl rfl).as (show _ = Value.bool true from rfl)) dc rfl ?_
  refine QD.nil (hZ _ ?_)
  clear hZ Z
  repeat (first | refine Run.seq ?_ | refine Run.skip ?_ | refine Run.block ?_ | refine Run.cond_t rfl ?_)
  refine Run.regionO (D := [some 40, some 9]) [true, true] rfl rfl rfl (fun Z hZ => ?_)
  iterate 2 refine q1 dc rfl rfl ?_
  refine QD.nil (hZ _ ?_)
  clear hZ Z
  repeat refine Run.seq ?_
  refine Run.regionO (D := [some 41, some 42, some 43]) [true, true, true] rfl rfl rfl (fun Z hZ => ?_)
  iterate 2 refine q1 dc rfl rfl ?_
  refine QD.e ((Ev.gtr rfl rfl).as (show _ = Value.bool false from rfl)) dc rfl ?_
  refine QD.nil (hZ _ ?_)
  clear hZ Z
  repeat (first | refine Run.skip ?_ | refine Run.cond_f rfl ?_)
  refine Run.regionO (D := [some 46, some 47, some 48, some 49, some 50, some 51, some 52, some 53, some 54, some 55, some 56, some 4]) [true, true, true, true, true, true, true, true, true, true, true, true] rfl rfl rfl (fun Z hZ => ?_)
  iterate 4 refine q1 dc rfl rfl ?_
  refine QD.e (Ev.mulK (r := (6 * 1 : Int)) rfl rfl dc) dc rfl ?_
  refine QD.e (Ev.subK (r := (18 - 6 * 1 : Int)) rfl rfl dc) dc rfl ?_
  refine QD.e (Ev.shrK (r := ((((A * 256 + B) * 256 + D) / 2 ^ (18 - 6 * 1) : Nat) : Int)) rfl rfl dc dc (shrL ((A * 256 + B) * 256 + D) (18 - 6 * 1))) dc rfl ?_
  refine QD.e (Ev.andK (a := ((A * 256 + B) * 256 + D) / 2 ^ (18 - 6 * 1)) (b := 63) (c := A % 4 * 16 + B / 16) rfl rfl (by show _ < 18446744073709551616; omega) dc (by rw [and63] <;> omega) (wI (by omega) (by omega))) dc rfl ?_
  refine QD.e ((Ev.indexT (s := b64A) T rfl rfl rfl (by omega) (by show _ < (64 : Int); omega)).as (b64iy (n := A % 4 * 16 + B / 16) (by omega))) dc rfl ?_
  refine QD.e ((Ev.convRune T rfl rfl rfl).as (show _ = str [b64c (A % 4 * 16 + B / 16)] from congrArg str (b64c_enc _))) dc rfl ?_
  refine QD.e (Ev.catS rfl rfl (by simp only [List.length_append, List.length_cons, List.length_nil]; omega)) dc rfl ?_
  refine q1 dc rfl rfl ?_
  refine QD.nil (hZ _ ?_)
  clear hZ Z
  refine Run.inBlock ?_
  refine Run.regionO (D := [some 57, some 38]) [true, true] rfl rfl rfl (fun Z hZ => ?_)
  refine QD.e (Ev.addI rfl rfl (wI om om)) dc rfl ?_
  refine q1 dc rfl rfl ?_
  refine QD.nil (hZ _ ?_)
  clear hZ Z
  skip
  refine Run.keep [0, 3, 4, 5, 6, 7, 38] [_, _, _, _, _, _, _] rfl ?_
  refine Run.inLoop ?_
  refine Run.seq ?_
  refine Run.regionO (D := [some 39]) [true] rfl rfl rfl (fun Z hZ => ?_)
  refine QD.e ((Ev.lss rfl rfl).as (show _ = Value.bool true from rfl)) dc rfl ?_
  refine QD.nil (hZ _ ?_)
  clear hZ Z
  repeat (first | refine Run.seq ?_ | refine Run.skip ?_ | refine Run.block ?_ | refine Run.cond_t rfl ?_)
  refine Run.regionO (D := [some 40, some 9]) [true, true] rfl rfl rfl (fun Z hZ => ?_)
  iterate 2 refine q1 dc rfl rfl ?_
  refine QD.nil (hZ _ ?_)
  clear hZ Z
  repeat refine Run.seq ?_
  refine Run.regionO (D := [some 41, some 42, some 43]) [true, true, true] rfl rfl rfl (fun Z hZ => ?_)
  iterate 2 refine q1 dc rfl rfl ?_
  refine QD.e ((Ev.gtr rfl rfl).as (show _ = Value.bool false from rfl)) dc rfl ?_
  refine QD.nil (hZ _ ?_)
  clear hZ Z
  repeat (first | refine Run.skip ?_ | refine Run.cond_f rfl ?_)
  refine Run.regionO (D := [some 46, some 47, some 48, some 49, some 50, some 51, some 52, some 53, some 54, some 55, some 56, some 4]) [true, true, true, true, true, true, true, true, true, true, true, true] rfl rfl rfl (fun Z hZ => ?_)
  iterate 4 refine q1 dc rfl rfl ?_
  refine QD.e (Ev.mulK (r := (6 * 2 : Int)) rfl rfl dc) dc rfl ?_
  refine QD.e (Ev.subK (r := (18 - 6 * 2 : Int)) rfl rfl dc) dc rfl ?_
  refine QD.e (Ev.shrK (r := ((((A * 256 + B) * 256 + D) / 2 ^ (18 - 6 * 2) : Nat) : Int)) rfl rfl dc dc (shrL ((A * 256 + B) * 256 + D) (18 - 6 * 2))) dc rfl ?_
  refine QD.e (Ev.andK (a := ((A * 256 + B) * 256 + D) / 2 ^ (18 - 6 * 2)) (b := 63) (c := B % 16 * 4 + D / 64) rfl rfl (by show _ < 18446744073709551616; omega) dc (by rw [and63] <;> omega) (wI (by omega) (by omega))) dc rfl ?_
  refine QD.e ((Ev.indexT (s := b64A) T rfl rfl rfl (by omega) (by show _ < (64 : Int); omega)).as (b64iy (n := B % 16 * 4 + D / 64) (by omega))) dc rfl ?_
  refine QD.e ((Ev.convRune T rfl rfl rfl).as (show _ = str [b64c (B % 16 * 4 + D / 64)] from congrArg str (b64c_enc _))) dc rfl ?_
  refine QD.e (Ev.catS rfl rfl (by simp only [List.length_append, List.length_cons, List.length_nil]; omega)) dc rfl ?_
  refine q1 dc rfl rfl ?_
  refine QD.nil (hZ _ ?_)
  clear hZ Z
  refine Run.inBlock ?_
  refine Run.regionO (D := [some 57, some 38]) [true, true] rfl rfl rfl (fun Z hZ => ?_)
  refine QD.e (Ev.addI rfl rfl (wI om om)) dc rfl ?_
  refine q1 dc rfl rfl ?_
  refine QD.nil (hZ _ ?_)
  clear hZ Z
  skip
  refine Run.keep [0, 3, 4, 5, 6, 7, 38] [_, _, _, _, _, _, _] rfl ?_
  refine Run.inLoop ?_
  refine Run.seq ?_
  refine Run.regionO (D := [some 39]) [true] rfl rfl rfl (fun Z hZ => ?_)
  refine QD.e ((Ev.lss rfl rfl).as (show _ = Value.bool true from rfl)) dc rfl ?_
  refine QD.nil (hZ _ ?_)
  clear hZ Z
  repeat (first | refine Run.seq ?_ | refine Run.skip ?_ | refine Run.block ?_ | refine Run.cond_t rfl ?_)
  refine Run.regionO (D := [some 40, some 9]) [true, true] rfl rfl rfl (fun Z hZ => ?_)
  iterate 2 refine q1 dc rfl rfl ?_
  refine QD.nil (hZ _ ?_)
  clear hZ Z
  repeat refine Run.seq ?_
  refine Run.regionO (D := [some 41, some 42, some 43]) [true, true, true] rfl rfl rfl (fun Z hZ => ?_)
  iterate 2 refine q1 dc rfl rfl ?_
  refine QD.e ((Ev.gtr rfl rfl).as (show _ = Value.bool false from rfl)) dc rfl ?_
  refine QD.nil (hZ _ ?_)
  clear hZ Z
  repeat (first | refine Run.skip ?_ | refine Run.cond_f rfl ?_)
  refine Run.regionO (D := [some 46, some 47, some 48, some 49, some 50, some 51, some 52, some 53, some 54, some 55, some 56, some 4]) [true, true, true, true, true, true, true, true, true, true, true, true] rfl rfl rfl (fun Z hZ => ?_)
  iterate 4 refine q1 dc rfl rfl ?_
  refine QD.e (Ev.mulK (r := (6 * 3 : Int)) rfl rfl dc) dc rfl ?_
  refine QD.e (Ev.subK (r := (18 - 6 * 3 : Int)) rfl rfl dc) dc rfl ?_
  refine QD.e (Ev.shrK (r := ((((A * 256 + B) * 256 + D) / 2 ^ (18 - 6 * 3) : Nat) : Int)) rfl rfl dc dc (shrL ((A * 256 + B) * 256 + D) (18 - 6 * 3))) dc rfl ?_
  refine QD.e (Ev.andK (a := ((A * 256 + B) * 256 + D) / 2 ^ (18 - 6 * 3)) (b := 63) (c := D % 64) rfl rfl (by show _ < 18446744073709551616; omega) dc (by rw [and63] <;> omega) (wI (by omega) (by omega))) dc rfl ?_
  refine QD.e ((Ev.indexT (s := b64A) T rfl rfl rfl (by omega) (by show _ < (64 : Int); omega)).as (b64iy (n := D % 64) (by omega))) dc rfl ?_
  refine QD.e ((Ev.convRune T rfl rfl rfl).as (show _ = str [b64c (D % 64)] from congrArg str (b64c_enc _))) dc rfl ?_
  refine QD.e (Ev.catS rfl rfl (by simp only [List.length_append, List.length_cons, List.length_nil]; omega)) dc rfl ?_
  refine q1 dc rfl rfl ?_
  refine QD.nil (hZ _ ?_)
  clear hZ Z
  refine Run.inBlock ?_
  refine Run.regionO (D := [some 57, some 38]) [true, true] rfl rfl rfl (fun Z hZ => ?_)
  refine QD.e (Ev.addI rfl rfl (wI om om)) dc rfl ?_
  refine q1 dc rfl rfl ?_
  refine QD.nil (hZ _ ?_)
  clear hZ Z
  skip
  refine Run.keep [0, 3, 4, 5, 6, 7, 38] [_, _, _, _, _, _, _] rfl ?_
  refine Run.inLoop ?_
  refine Run.seq ?_
  refine Run.regionO (D := [some 39]) [true] rfl rfl rfl (fun Z hZ => ?_)
  refine QD.e ((Ev.lss rfl rfl).as (show _ = Value.bool false from rfl)) dc rfl ?_
  refine QD.nil (hZ _ ?_)
  clear hZ Z
  repeat (first | refine Run.seq ?_ | refine Run.inBlock ?_ | refine Run.exit rfl ?_ | refine Run.cond_f rfl ?_)
  refine Run.regionO (D := [some 14, some 15, some 5]) [true, true, true] rfl rfl rfl (fun Z hZ => ?_)
  refine q1 dc rfl rfl ?_
  refine QD.e (Ev.addK (r := ((at0 + 3 : Nat) : Int)) rfl rfl (by rw [wI (by omega) (by omega)]; omega)) dc rfl ?_
  refine q1 dc rfl rfl ?_
  refine QD.nil (hZ _ ?_)
  clear hZ Z
  skip
  refine Run.keep [0, 3, 4, 5] [_, _, _, _] rfl ?_
  exact ih (t).length _ _ _ (by simp only [List.length_cons, List.length_nil]; omega) ⟨at0 + 3, t, _, rfl, hd3, ho3, by omega, rfl, rfl, rfl⟩
end Go.V
namespace Go.V
open Go.Proofs.Tryz
open Go.RowKit
set_option maxRecDepth 10000
attribute [local irreducible] Run Ops QD
def txJ (s : Bs) : Js := .mk 115 s []
theorem txJ_rel (d : Nat) (I : Imm) (s : Bs) : (tJs (d + 1)).rel I [.int .u8 115, str s, .slice none 0 0] (txJ s) := ⟨.slice none 0 0, rfl, sl_nil _ _⟩
def opJ (name s : Bs) : List Js := if s = [] then [] else [txJ name, txJ s]
theorem object_text (d : Nat) (I : Imm) (b : Nat) (name s : Bs) (kids : List Js) (vk : Value) (M : Own) (hG : Gr (tJs (d + 1)) I 39 vk kids M) (hkl : kids.length ≤ 1000000) :
  Spec prog 45 [.pointer (some ⟨b, 0, none⟩), str name, str s] I ((b, obj vk) :: M) fun _ J N => ∃ vk' M', N = (b, obj vk') :: M' ∧ Gr (tJs (d + 1)) J 39 vk' (kids ++ opJ name s) M' := by
 refine Spec.enter 13 [(0, _), (1, _), (2, _)] func45 rfl ntmps45 (by simp) rfl ?_
 intro C hCf hR hCI
 refine Run.seq ?_
 by_cases h0 : s = []
 ·subst h0
  refine Run.regionO (D := [some 6, some 7]) [true, true] rfl rfl rfl (fun Z hZ => ?_)
  refine q1 dc rfl rfl ?_
  refine QD.e ((Ev.neqS rfl rfl).as (show _ = Value.bool false from rfl)) dc rfl ?_
  refine QD.nil (hZ _ ?_)
  clear hZ Z
  repeat (first | refine Run.skip ?_ | refine Run.cond_f rfl ?_)
  refine Run.end0 (by rw [hCf]; exact func45) results45 (hR _ _ _ ?_)
  exact ⟨vk, M, rfl, by simpa [opJ] using hG⟩
 ·skip
  refine Run.regionO (D := [some 6, some 7]) [true, true] rfl rfl rfl (fun Z hZ => ?_)
  refine q1 dc rfl rfl ?_
  refine QD.e ((Ev.neqS rfl rfl).as (show _ = Value.bool true from congrArg Value.bool (by rw [decide_eq_false h0]; rfl))) dc rfl ?_
  refine QD.nil (hZ _ ?_)
  clear hZ Z
  refine Run.cond_t rfl ?_
  refine Run.regionP (D := [some 8, some 9, some 10, some 11, some 12]) [true, true, true] 3 rfl rfl rfl (by simp only [List.drop_succ_cons, List.drop_zero]; rfl) (fun Z hZ => ?_)
  iterate 3 refine q1 dc rfl rfl ?_
  refine QD.nil (hZ _ ?_)
  clear hZ Z
  refine Ops.call ((spec_jText I s)) rfl dc call44 rfl ?_
  rintro y J1 l1 rfl
  refine Ops.callP (N := []) (object_put d J1 b name _ (txJ s) kids vk M (hG.mono l1) (txJ_rel d J1 s) hkl) (.refl _) rfl dc call43 rfl ?_
  rintro y J2 N2 l2 ⟨vk2, M2, rfl, hG2⟩
  refine Ops.nil ?_
  skip
  refine Run.end0 (by rw [hCf]; exact func45) results45 (hR _ _ _ ?_)
  exact ⟨vk2, M2, rfl, by rw [opJ, if_neg h0]; exact hG2⟩
end Go.V
