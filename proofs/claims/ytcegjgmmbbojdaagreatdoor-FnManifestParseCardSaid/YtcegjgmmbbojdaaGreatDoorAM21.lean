import Derived.Test.YtcegjgmmbbojdaaGreatDoorAW
import Derived.Test.YtcegjgmmbbojdaaGreatDoorAM20
import Derived.Test.YtcegjgmmbbojdaaGreatDoorAM4
import Derived.Test.YtcegjgmmbbojdaaGreatDoorAM15
import Derived.Test.YtcegjgmmbbojdaaGreatDoorAM17
set_option linter.unusedVariables false
set_option linter.unusedSimpArgs false
namespace Go.V
open Go.Proofs.Tryz
open Go.RowKit
set_option maxRecDepth 10000
attribute [local irreducible] Run Ops QD
theorem Value_ListNull (f : Nat) (I : Imm) (cs : List Value) (v : JV) (hrel : (tJV (f + 1)).rel I cs v) (hk : v.kind = 110) (N F : FuncId) (ns ws : List Value) (R : Imm -> Own -> Prop) (M0 : Own)
  (h0 : Spec prog N ([.int .i64 (-1)] ++ ns) I M0 fun _ J M => R J M) (hcallN : ∀ args w, (callFunc N args).run prog w = .ok (.enter N args) w) :
  Spec prog 107 [.agg cs.toArray, .func (.func N) #[] ns.toArray, .func (.func F) #[] ws.toArray] I M0 fun w J M => w = .bool true /\ R J M := by
 obtain ⟨wk, wn, rfl, hwk, hwn⟩ := hrel
 obtain ⟨A3, z3, rfl⟩ := hwk.isSl
 obtain ⟨A4, z4, rfl⟩ := hwn.isSl
 rw [hk]
 refine Spec.enter 40 [(0, _), (1, _), (2, _)] func107 rfl ntmps107 (by simp) rfl ?_
 intro C hCf hR hCI
 refine rS ?_
 refine Run.region (Ops.box rfl dc rfl rfl (fun b3 => (oP rfl (Ops.nil ?_))))
 repeat refine rS ?_
 refine rO (fun Z hZ => (eE rfl (gY (Yv.load 0 T rfl rfl rfl rfl) (zN hZ ?_))))
 repeat (first | refine rS ?_ | refine rB ?_)
 refine rO (fun Z hZ => (fE (Ev.eqlI rfl rfl) (eE rfl (zN hZ ?_))))
 repeat (first | refine rS ?_ | refine rT rfl ?_)
 refine Run.region (oP rfl (Ops.callVX (M := M0) (N := [(b3, _)]) (vs := [.int .i64 (-1)]) h0 (List.perm_append_comm (l₁ := [_]) (l₂ := M0)) rfl dc hcallN rfl rfl fun w J' M' l' hw => (Ops.perm (List.perm_append_comm (l₁ := M') (l₂ := [_])) (Ops.nil (rS (rO (fun Z hZ => (eE rfl (zN hZ ?_)))))))))
 skip
 refine Run.dropL (List.sublist_cons_self _ _) ?_
 refine Run.ret1 (by rw [hCf]; exact func107) results107 rfl (hR _ _ _ ?_)
 exact ⟨rfl, hw⟩
theorem zz_SizedDsNo (I : Imm) : Pure prog 109 [.slice none 0 0, .int .i64 (-1)] I fun w J => w = .slice none 0 0 := by
 refine Spec.enter 14 [(0, _), (1, _)] func109 rfl ntmps109 (by simp) rfl ?_
 intro C hCf hR hCI
 refine rS ?_
 refine rO (fun Z hZ => (eE rfl (zN hZ ?_)))
 repeat refine rS ?_
 refine rO (fun Z hZ => (eE rfl (fE (Ev.lss rfl rfl) (zN hZ ?_))))
 repeat (first | refine rS ?_ | refine rT rfl ?_)
 refine rO (fun Z hZ => (eE rfl (zN hZ ?_)))
 skip
 refine Run.fin (Run.ret1 (by rw [hCf]; exact func109) results109 rfl (hR _ _ _ ?_))
 exact ⟨rfl, rfl⟩
theorem Dss_null (I : Imm) (b3 x off : Nat) (cells : List Value) (tt : TypeId) (hB : At I b3 0 [.pointer (some ⟨x, off, none⟩)]) (hc : cells[off]? = some (.slice none 0 0)) (ho : off + 1 <= cells.length) :
  Spec prog 108 [.int .i64 (-1), .pointer (some ⟨b3, 0, none⟩)] I [(x, blk cells tt)] fun _ J M => M = [(x, blk (setAt cells off [.slice none 0 0]) tt)] := by
 refine Spec.enter 10 [(0, _), (1, _)] func108 rfl ntmps108 (by simp) rfl ?_
 intro C hCf hR hCI
 skip
 refine Run.regionAny (Holds I []) (bl 8 0) (by kernel_rfl) (by kernel_rfl) (RAny.tk 0 (bl 8 1) rfl (by kernel_rfl) dc (fun W h => h.holds (Le.refl _) (by first | exact mp rfl | exact mq rfl)) (Yld.loadI T hB rfl rfl rfl) (RAny.tk 1 (bl 8 3) rfl (by kernel_rfl) dc (fun W h => h.holds (Le.refl _) (by first | exact mp rfl | exact mq rfl)) (Yld.loadI T hB rfl rfl rfl) (RAny.tk 2 (bl 8 7) rfl (by kernel_rfl) dc (fun W h => h.holds (Le.refl _) (by first | exact mp rfl | exact mq rfl)) (Yld.eval T rfl rfl) (RAny.tk 4 (bl 8 23) rfl (by kernel_rfl) dc (fun W h => h.holds (Le.refl _) (by first | exact mp rfl | exact mq rfl)) (Yld.eval T rfl rfl) (RAny.on 3 (bl 8 31) rfl (by kernel_rfl) rfl dc (Eff.yv (Yv.load 0 T rfl rfl rfl hc) ⟨fun W h => h.holds (Le.refl _) (fun _ h => by cases h), ?_⟩))))))
 refine RAny.on 5 (bl 8 63) rfl (by kernel_rfl) rfl dc (Eff.call (zz_SizedDsNo I) call109 rfl fun w J' l' hw => ⟨fun W h => h.holds l' (fun _ h => by cases h), ?_⟩)
 obtain rfl := hw
 skip
 refine RAny.tk 6 (bl 8 127) rfl (by kernel_rfl) dc (fun W h => h.holds l' (by first | exact mp rfl | exact mq rfl)) (Yld.eval T rfl rfl) (RAny.os 7 (bl 8 255) rfl (by kernel_rfl) rfl (Eff.store 0 rfl rfl rfl rfl (T.sizeOk rfl) rfl ho rfl rfl ⟨fun W h => h.holds l' (fun _ h => by cases h), (RAny.done _ (by kernel_rfl) (Run.end0 (by rw [hCf]; exact func108) results108 (hR _ _ _ ?_)))⟩))
 rfl
theorem All2.nth {α β : Type} {R : α -> β -> Prop} : ∀ {l : List α} {m : List β}, All2 R l m -> ∀ (i : Nat) (y : β), m[i]? = some y -> ∃ x, l[i]? = some x /\ R x y
 | _, _, .nil, i, y, h => by simp at h
 | _, _, .cons h1 h2, 0, y, h => ⟨_, rfl, by simp at h; rw [<- h]; exact h1⟩
 | _, _, .cons h1 h2, i + 1, y, h => All2.nth h2 i y (by simpa using h)
def laV (J : Imm) (nn : Bool) (c : Value) (l : List Ds) : Prop := Sl tDv J c l /\ ((nn = false /\ c = .slice none 0 0) \/ (nn = true /\ ∃ a n k, c = .slice (some a) n k))
theorem laV.mono {J K : Imm} {nn : Bool} {c : Value} {l : List Ds} (h : laV J nn c l) (hle : Le J K) : laV K nn c l := ⟨h.1.mono hle, h.2⟩
def StD (n x off : Nat) (cells : List Value) (tt : TypeId) (l : List Ds) (i : Nat) (J : Imm) (M : Own) : Prop :=
 ∃ b done, M = [(x, blk (setAt cells off [.slice (some ⟨b, 0, none⟩) n n]) tt), (b, blk (done ++ (List.replicate (n - i) z9).flatten) 83)] /\ Cells tDv J done (l.take i) /\ done.length = i * 9
set_option maxHeartbeats 1000000 in
theorem takeDescriptors_T (f : Nat) (I : Imm) (hU : UT I) (cs : List Value) (v : JV) (hrel : (tJV (f + 1)).rel I cs v) (nn : Bool) (l : List Ds) (hv : laR nn l v) (hl : l.length <= 100000) (hg : ∀ d ∈ l, okDt d) (x off : Nat) (cells : List Value) (tt : TypeId) (hc : cells[off]? = some (.slice none 0 0)) :
  Spec prog 101 [.agg cs.toArray, .pointer (some ⟨x, off, none⟩)] I [(x, blk cells tt)] fun w J M => w = .bool true /\ ∃ c, laV J nn c l /\ M = [(x, blk (setAt cells off [c]) tt)] := by
 have ho : off + 1 <= cells.length := (List.getElem?_eq_some_iff.1 hc).1
 have hrel0 := hrel
 obtain ⟨wk, wn, rfl, hwk, hwn⟩ := hrel
 obtain ⟨A3, z3, rfl⟩ := hwk.isSl
 obtain ⟨A4, z4, rfl⟩ := hwn.isSl
 refine Spec.enter 9 [(0, _), (1, _)] func101 rfl ntmps101 (by simp) rfl ?_
 intro C hCf hR hCI
 refine rS ?_
 refine Run.region (Ops.box rfl dc rfl rfl (fun b2 => (Ops.box rfl dc rfl rfl (fun b3 => (oP rfl (Ops.nil (Run.freezeAt 0 rfl rfl fun J1 l1 hJ1 => ?_)))))))
 have hB : At J1 b3 0 [.pointer (some ⟨x, off, none⟩)] := At.block hJ1
 refine rS ?_
 refine rP 3 (fun Z hZ => (gY (Yv.loadN 0 T rfl rfl rfl rfl rfl rfl) (eE rfl (eE rfl (zN hZ ?_)))))
 rcases hv with ⟨rfl, hk, rfl⟩ | ⟨rfl, hk, hA⟩
 ·have hM := Value_ListNull f J1 _ v ((tJV (f + 1)).mono hrel0 l1) hk 108 110 [.pointer (some ⟨b3, 0, none⟩)] [.pointer (some ⟨b3, 0, none⟩)] (fun J M => M = [(x, blk (setAt cells off [.slice none 0 0]) tt)]) [(x, blk cells tt)] (Dss_null J1 b3 x off cells tt hB hc ho) call108
  refine Ops.callP (N := [_]) (hM) (.refl _) rfl dc call107 rfl ?_
  rintro w J2 M2 l2 ⟨rfl, rfl⟩
  refine oP rfl (Ops.nil ?_)
  skip
  refine Run.dropL (L' := [(x, _)]) (List.sublist_cons_self _ _) ?_
  refine Run.ret1 (by rw [hCf]; exact func101) results101 rfl (hR _ _ _ ?_)
  exact ⟨rfl, _, ⟨Sl.nil _ _, .inl ⟨rfl, rfl⟩⟩, rfl⟩
 ·have hlen := hA.length
  have hM := Value_List f J1 _ v ((tJV (f + 1)).mono hrel0 l1) hk (by omega) 108 110 [.pointer (some ⟨b3, 0, none⟩)] [.pointer (some ⟨b3, 0, none⟩)] (StD v.kids.length x off cells tt l) [(x, blk cells tt)]
   ((Dss_size J1 v.kids.length (by omega) b3 x off cells tt hB hc ho).mono fun w J M _ ⟨b, h⟩ => ⟨b, [], by simpa using h, Cells.nil _ _, rfl⟩)
   call108 call110 (fun _ _ _ _ ⟨b, d, h1, h2, h3⟩ hle => ⟨b, d, h1, h2.mono hle, h3⟩)
   (fun i y J M kc hle hy hr hSt => by
    obtain ⟨b, done, rfl, hC, hd⟩ := hSt
    cases f with
    | zero => exact hr.elim
    | succ g =>
    have hi : i < v.kids.length := (List.getElem?_eq_some_iff.1 hy).1
    obtain ⟨d, hdl, hdR⟩ := hA.nth i y hy
    obtain ⟨k, hk'⟩ : ∃ k, v.kids.length - i = k + 1 := ⟨v.kids.length - i - 1, by omega⟩
    have e1 : done ++ (List.replicate (v.kids.length - i) z9).flatten = setAt (done ++ (z9 ++ (List.replicate k z9).flatten)) (i * 9) z9 := by
     rw [hk', List.replicate_succ, List.flatten_cons, <- hd, setAt_midW _ _ _ _ rfl]
    rw [e1]
    refine (Dss_one g J (hU.mono (l1.trans hle)) i v.kids.length hi (by omega) kc y hr d hdR (hg d (List.mem_of_getElem? hdl)) b3 x off b _ _ tt (hB.mono hle) (setAt_get _ ho) (by simp only [List.length_append, hd]; show i * 9 + 9 <= i * 9 + (9 + _); omega)).mono fun w J' M' hle' ⟨h1, dc, h2, h3⟩ => ⟨h1, b, done ++ dc, ?_, ?_, ?_⟩
    ·rw [h3, <- hd, setAt_midW _ _ _ _ (tDv.len h2), show v.kids.length - (i + 1) = k by omega, List.append_assoc]
    ·rw [List.take_add_one, hdl]
     exact (hC.mono hle').append (Cells.one h2)
    ·rw [List.length_append, hd, tDv.len h2]; show i * 9 + 9 = _; omega)
  refine Ops.callP (N := [_]) (hM) (.refl _) rfl dc call107 rfl ?_
  rintro w J2 M2 l2 ⟨rfl, b, done, rfl, hC, hd⟩
  rw [List.take_of_length_le (by omega)] at hC
  rw [Nat.sub_self, List.replicate_zero, List.flatten_nil, List.append_nil]
  refine oP rfl (Ops.nil ?_)
  skip
  refine Run.dropL (L' := [(x, _), (b, _)]) (List.sublist_cons_self _ _) ?_
  refine Run.freezeAt 1 rfl rfl fun J3 l3 hJ3 => ?_
  refine Run.ret1 (by rw [hCf]; exact func101) results101 rfl (hR _ _ _ ?_)
  exact ⟨rfl, _, ⟨Sl.ofBlock hJ3 (hC.mono l3) hlen (Nat.le_refl _), .inr ⟨rfl, _, _, _, rfl⟩⟩, rfl⟩
def sbP (J : Imm) (c : Value) (l : List Ds) : Prop := ∃ p r b pc, l = p :: r /\ c = .pointer (some ⟨b, 0, none⟩) /\ At J b 0 pc /\ dsV J p pc
theorem sbP.mono {J K : Imm} {c : Value} {l : List Ds} (h : sbP J c l) (hle : Le J K) : sbP K c l := by
 obtain ⟨p, r, b, pc, h1, h2, h3, h4⟩ := h
 exact ⟨p, r, b, pc, h1, h2, h3.mono hle, h4.mono hle⟩
theorem takeSubject_T (f : Nat) (I : Imm) (hU : UT I) (cs : List Value) (v : JV) (hrel : (tJV (f + 1)).rel I cs v) (p : Ds) (r : List Ds) (hv : dsR p v) (hg : okDt p) (x off : Nat) (cells : List Value) (tt : TypeId) (hc : cells[off]? = some (.pointer none)) :
  Spec prog 103 [.agg cs.toArray, .pointer (some ⟨x, off, none⟩)] I [(x, blk cells tt)] fun w J M => w = .bool true /\ ∃ c, sbP J c (p :: r) /\ M = [(x, blk (setAt cells off [c]) tt)] := by
 have ho : off + 1 <= cells.length := (List.getElem?_eq_some_iff.1 hc).1
 have hk := hv.1
 have hrel0 := hrel
 obtain ⟨wk, wn, rfl, hwk, hwn⟩ := hrel
 obtain ⟨A3, z3, rfl⟩ := hwk.isSl
 obtain ⟨A4, z4, rfl⟩ := hwn.isSl
 rw [hk] at hrel0 ⊢
 refine Spec.enter 23 [(0, _), (1, _)] func103 rfl ntmps103 (by simp) rfl ?_
 intro C hCf hR hCI
 refine rS ?_
 refine Run.region (Ops.box rfl dc rfl rfl (fun b2 => (oP rfl (Ops.nil ?_))))
 repeat refine rS ?_
 refine rO (fun Z hZ => (eE rfl (gY (Yv.load 0 T rfl rfl rfl rfl) (fE (Ev.eqlI rfl rfl) (zN hZ ?_)))))
 repeat (first | refine rS ?_ | refine rK ?_ | refine rF rfl ?_)
 refine rO (fun Z hZ => (eE rfl (eE rfl (gY (Yv.load 1 T rfl rfl rfl hc) (fE (Ev.eqlNil T rfl rfl rfl rfl rfl) (zN hZ ((rT rfl (Run.region (oP rfl (Ops.buildL bd83 rfl dc rfl rfl (Ops.box rfl dc rfl rfl (fun bp => (oP rfl (Ops.store 2 rfl rfl rfl rfl rfl (T.sizeOk rfl) rfl ho rfl rfl (Ops.nil (rS (Run.regionT (D := [some 18, some 19, some 20, some 21, some 22, some 4]) (fun _ => True) [true, true, true, true] (bl 6 15) 2 (by kernel_rfl) (by kernel_rfl) (by kernel_rfl) rfl (fun Z hZ => (eE rfl (eE rfl (gY (Yv.load 2 T rfl rfl rfl (setAt_get _ ho)) (gY (Yv.loadN 1 T rfl rfl rfl rfl rfl rfl) (zN hZ ((RAny.on 4 (bl 6 31) rfl (by kernel_rfl) rfl dc (Eff.callM (M := [_]) (N := [_, _]) (Descriptor_take f I hU _ v hrel0 p hv hg bp 0 z9 83 (lb rfl)) (.refl _) call111 rfl fun w J' M' l' hw => ⟨fun _ _ => trivial, ?_⟩)))))))))))))))))))))))))))
 obtain ⟨rfl, dc, hdc, rfl⟩ := hw
 refine RAny.tk 5 (bl 6 63) rfl (by kernel_rfl) (by decide) (fun _ _ => trivial) (Yld.eval T rfl rfl) (RAny.done _ (by kernel_rfl) ?_)
 skip
 refine Run.freezeAt 0 rfl rfl fun J3 l3 hJ3 => ?_
 refine Run.dropL (L' := [(x, _)]) (List.sublist_cons_self _ _) ?_
 refine Run.ret1 (by rw [hCf]; exact func103) results103 rfl (hR _ _ _ ?_)
 refine ⟨rfl, _, ⟨p, r, bp, dc, rfl, rfl, ?_, hdc.mono l3⟩, rfl⟩
 have h9 := tDv.len hdc
 have : setAt z9 0 dc = dc := by
  unfold setAt
  rw [List.take_zero, List.nil_append, List.drop_of_length_le (by rw [h9]; exact Nat.le_refl _), List.append_nil]
 rw [this] at hJ3
 exact At.block hJ3
end Go.V
namespace Go.V
theorem blt_of_not {a b : Bs} (h : ¬ a < b) (hne : a ≠ b) : b < a :=
 Classical.byContradiction fun h2 => hne (List.le_antisymm (List.not_lt.1 h2) (List.not_lt.1 h))
theorem ins_done {A B : List Bs} {x : Bs} (hs : (A ++ B).Pairwise (· < ·)) (hB : ∀ y ∈ B, x < y) (hA : ∀ A' y, A = A' ++ [y] -> y < x) : (A ++ x :: B).Pairwise (· < ·) := by
 obtain ⟨h1, h2, h3⟩ := List.pairwise_append.1 hs
 refine List.pairwise_append.2 ⟨h1, List.pairwise_cons.2 ⟨hB, h2⟩, fun a ha b hb => ?_⟩
 rcases List.mem_cons.1 hb with rfl | hb
 ·rcases List.eq_nil_or_concat A with rfl | ⟨A', y, e⟩
  ·cases ha
  ·rw [List.concat_eq_append] at e
   have hy := hA A' y e
   subst e
   rcases List.mem_append.1 ha with ha | ha
   ·exact List.lt_trans ((List.pairwise_append.1 h1).2.2 a ha y (by simp)) hy
   ·rw [List.mem_singleton.1 ha]; exact hy
 ·exact h3 a ha b hb
theorem asc_pairwise : ∀ {xs : List K2}, Asc xs -> (xs.map Prod.fst).Pairwise (· < ·)
 | [], _ => List.Pairwise.nil
 | [x], _ => List.pairwise_singleton _ _
 | x :: y :: r, h => by
  have ht : Asc (y :: r) := fun i a b ha hb => h (i + 1) a b (by simpa using ha) (by simpa using hb)
  have ih := asc_pairwise ht
  have hxy : x.1 < y.1 := h 0 x y rfl rfl
  rw [List.map_cons]
  refine List.pairwise_cons.2 ⟨fun z hz => ?_, ih⟩
  rw [List.map_cons] at hz ih
  rcases List.mem_cons.1 hz with rfl | hz
  ·exact hxy
  ·exact List.lt_trans hxy ((List.pairwise_cons.1 ih).1 z hz)
theorem sorted_eq {l m : List Bs} (hp : l.Perm m) (hl : l.Pairwise (· < ·)) (hm : m.Pairwise (· < ·)) : l = m :=
 List.Perm.eq_of_pairwise (le := (· < ·)) (fun a b _ _ h1 h2 => absurd (List.lt_trans h1 h2) (List.lt_irrefl a)) hl hm hp
theorem lt_nodup {l : List Bs} (h : l.Pairwise (· < ·)) : l.Nodup := h.imp fun hab e => by subst e; exact List.lt_irrefl _ hab
end Go.V
namespace Go.V
open Go.RowKit
def valT : Value -> Bs
 | .string b => b.data.toList
 | _ => []
def kvl (l : List K2) : KV := l.map fun p => (p.1, str p.2)
theorem midx_absent (k : Bs) : ∀ (l : List K2), k ∉ l.map Prod.fst -> midx k (kvl l) = none
 | [], _ => rfl
 | p :: r, h => by
  rw [List.map_cons, List.mem_cons, not_or] at h
  show (if p.1 = k then some (0, str p.2) else (midx k (kvl r)).map fun q => (q.1 + 1, q.2)) = none
  rw [if_neg fun e => h.1 e.symm, midx_absent k r h.2]; rfl
theorem kvs_snoc (l : List K2) (p : K2) : kvs (l ++ [p]) = mset p.1 (str p.2) (kvs l) := by unfold kvs; rw [List.foldl_append]; rfl
theorem kvs_eq : ∀ (n : Nat) (l : List K2), l.length = n -> (l.map Prod.fst).Nodup -> kvs l = kvl l
 | 0, l, h, _ => by
  obtain rfl := List.eq_nil_of_length_eq_zero h
  rfl
 | n + 1, l, h, hn => by
  rcases List.eq_nil_or_concat l with rfl | ⟨l, p, rfl⟩
  ·cases h
  ·rw [List.concat_eq_append] at h hn ⊢
   rw [List.map_append, List.nodup_append] at hn
   obtain ⟨h1, _, h3⟩ := hn
   have hp : p.1 ∉ l.map Prod.fst := fun hm => h3 _ hm p.1 (by simp) rfl
   rw [kvs_snoc, kvs_eq n l (by simpa using h) h1, mset_none _ _ _ (midx_absent _ _ hp)]
   unfold kvl
   rw [List.map_append]; rfl
theorem mget_kvl {p : K2} : ∀ {l : List K2}, (l.map Prod.fst).Nodup -> p ∈ l -> mget p.1 (kvl l) = some (str p.2)
 | [], _, h => by cases h
 | q :: r, hn, h => by
  rw [List.map_cons, List.nodup_cons] at hn
  show (if q.1 = p.1 then some (str q.2) else mget p.1 (kvl r)) = some (str p.2)
  rcases List.mem_cons.1 h with rfl | h
  ·rw [if_pos rfl]
  ·have hne : q.1 ≠ p.1 := fun e => hn.1 (by rw [e]; exact List.mem_map_of_mem h)
   rw [if_neg hne]
   exact mget_kvl hn.2 h
end Go.V
namespace Go.V
open Go.RowKit
set_option maxRecDepth 10000
attribute [local irreducible] Run Ops QD
theorem keys_of {es : List MapEntry} {xs : List K2} (h : es.map (fun e => (e.key, e.val)) = (kvl xs).map (fun p => (str p.1, p.2))) : es.map (fun e => valT e.key) = xs.map Prod.fst /\ ∀ e ∈ es, e.key = str (valT e.key) := by
 have h1 : es.map (fun e => e.key) = xs.map fun p => str p.1 := by
  have := congrArg (List.map Prod.fst) h
  rw [List.map_map, List.map_map, show (Prod.fst ∘ fun e : MapEntry => (e.key, e.val)) = fun e => e.key from rfl] at this
  rw [this]; unfold kvl; rw [List.map_map]; rfl
 refine ⟨?_, fun e he => ?_⟩
 ·have := congrArg (List.map valT) h1
  rw [List.map_map, List.map_map] at this
  exact this
 ·have hm : e.key ∈ es.map fun e => e.key := List.mem_map_of_mem he
  rw [h1] at hm
  obtain ⟨p, _, hp⟩ := List.mem_map.1 hm
  rw [<- hp]; rfl
theorem setAt_swap (A R : List Bs) (y x : Bs) (post : List Value) : setAt (setAt ((A ++ y :: x :: R).map str ++ post) (A.length + 1) [str y]) A.length [str x] = (A ++ x :: y :: R).map str ++ post := by
 have e1 : ∀ (u v : Value), (A ++ y :: x :: R).map str ++ post = (A.map str ++ [str y]) ++ ([str x] ++ (R.map str ++ post)) := fun _ _ => by simp
 have h1 : setAt ((A ++ y :: x :: R).map str ++ post) (A.length + 1) [str y] = (A.map str ++ [str y]) ++ ([str y] ++ (R.map str ++ post)) := by
  rw [e1 (str y) (str x)]
  have := setAt_midW (A.map str ++ [str y]) [str x] (R.map str ++ post) [str y] rfl
  rw [List.length_append, List.length_map] at this
  exact this
 rw [h1, List.append_assoc]
 have := setAt_midW (A.map str) [str y] ([str y] ++ (R.map str ++ post)) [str x] rfl
 rw [List.length_map] at this
 rw [this]
 simp
theorem strs_nth {l : List Bs} {i : Nat} {x : Bs} {post : List Value} (h : l[i]? = some x) : (l.map str ++ post)[i]? = some (str x) := by
 have hi := (List.getElem?_eq_some_iff.1 h).1
 rw [List.getElem?_append_left (by rw [List.length_map]; exact hi), List.getElem?_map, h]; rfl
end Go.V
namespace Go.V
open Go.Proofs.Tryz
open Go.RowKit
set_option maxRecDepth 10000
attribute [local irreducible] Run Ops QD
theorem Cells.strs_eq {I : Imm} {cs : List Value} {xs : List (List UInt8)} (h : Cells tStr I cs xs) : cs = xs.map str := by
 obtain ⟨css, rfl, h2, h3⟩ := h
 induction css generalizing xs with
 | nil => cases xs with
  | nil => rfl
  | cons x r => simp at h2
 | cons c css ih => cases xs with
  | nil => simp at h2
  | cons x r =>
   have h0 : c = [str x] := h3 0 x c rfl rfl
   subst h0
   have := ih (xs := r) (by simpa using h2) (fun i y d hy hd => h3 (i + 1) y d (by simpa using hy) (by simpa using hd))
   simp [this]
set_option maxHeartbeats 4000000 in
theorem zz_Keys (I : Imm) (bm : Nat) (o : Obj) (xs : List K2) (hI : I bm = some o) (hM : Mp o (kvs xs)) (hA : Asc xs) (hl : xs.length <= 1000000) : Pure prog 57 [.map (some bm)] I fun w J => Sl tStr J w (xs.map Prod.fst) := by
 have hpw := asc_pairwise hA
 have hnd := lt_nodup hpw
 obtain ⟨es, clock, rfl, hes, hn, hb⟩ := hM
 rw [kvs_eq _ xs rfl hnd] at hes
 obtain ⟨hk1, hk2⟩ := keys_of hes
 refine Spec.enter 57 [(0, _)] func57 rfl ntmps57 (by simp) rfl ?_
 intro C hCf hR hCI
 refine rS ?_
 refine rO (fun Z hZ => (eE rfl (zN hZ ((rS (rO (fun Z hZ => (eE rfl (zN hZ ?_)))))))))
 repeat refine rS ?_
 refine Run.region (oP rfl (Ops.rangeI T hI rfl dc rfl rfl fun r => (Ops.nil (rB (Run.keep [3, 8] [_, _] rfl ?_)))))
 refine Run.rounds (fun m env L J => ∃ (ks : List Bs) (seen : Array Nat) (c0 : Nat) (v : Value) (M : Own), m = (lef es seen).length /\ (ks ++ (lef es seen).map fun e => valT e.key).Perm (xs.map Prod.fst) /\ Gr tStr J 9 v ks M /\ clock <= c0 /\
  env = [(3, v), (8, .pointer (some ⟨r, 0, none⟩))] /\ L = (r, .mapIter (some bm) clock seen c0) :: M /\ Le I J) es.toList.length ⟨[], #[], clock, _, [], by rw [lef_nil], by rw [lef_nil, List.nil_append, hk1], Gr.nil _ _ _, Nat.le_refl _, rfl, rfl, Le.refl _⟩ ?_
 rintro m env L J ⟨ks, seen, c0, v, M, rfl, hp, hG, hc0, rfl, rfl, hle⟩ ih
 have hlen : ks.length + (lef es seen).length = xs.length := by
  have := hp.length_eq
  simpa using this
 refine rS ?_
 refine Run.region ?_
 refine Ops.nextI 0 (hle _ _ hI) hb hc0 rfl dc rfl rfl (fun hd => ?_) (fun e he => ?_)
 ·skip
  refine oP rfl (Ops.nil ?_)
  rw [hd, List.map_nil, List.append_nil] at hp
  clear ih
  repeat (first | refine rS ?_ | refine Run.exit rfl ?_ | refine rF rfl ?_)
  refine Run.dropL (List.sublist_cons_self _ _) ?_
  refine rO (fun Z hZ => (eE rfl (zN hZ ((rB ?_)))))
  have hkl : ks.length = xs.length := by rw [hp.length_eq, List.length_map]
  obtain ⟨cs, ⟨hgl, hg'⟩, hC⟩ := hG
  have hcs := hC.strs_eq
  rcases hg' with ⟨rfl, hcn, rfl⟩ | ⟨b, cap, cur, rfl, rfl, hmc, hsz, htake⟩
  ·have hk0 : ks = [] := List.eq_nil_of_length_eq_zero hcn
   subst hk0
   refine Run.keep [3, 5] [_, _] rfl ?_
   refine Run.loop ?_
   repeat refine rS ?_
   refine rO (fun Z hZ => (eE rfl (eE rfl (eE rfl (fE (Ev.lss rfl rfl) (zN hZ ?_))))))
   repeat (first | refine rS ?_ | refine Run.exit rfl ?_ | refine rF rfl ?_)
   refine rO (fun Z hZ => (eE rfl (eE rfl (zN hZ ?_))))
   skip
   refine Run.fin (Run.ret1 (by rw [hCf]; exact func57) results57 rfl (hR _ _ _ ?_))
   have hx : xs.map Prod.fst = [] := hp.symm.eq_nil
   exact ⟨rfl, by rw [hx]; exact Sl.nil _ _⟩
  ·obtain ⟨post, hpost⟩ : ∃ post, cur.toList = ks.map str ++ post := ⟨cur.toList.drop ks.length, by
    have h1 : tStr.size = 1 := rfl
    rw [h1, Nat.mul_one] at htake
    rw [<- hcs, <- htake, List.take_append_drop]⟩
   have hcur : cur = (ks.map str ++ post).toArray := by rw [<- hpost]
   subst hcur
   clear hpost htake hsz hgl hC hcs
   generalize hnn : ks.length = n at *
   refine Run.keep [3, 5] [_, _] rfl ?_
   refine Run.rounds (fun m env L K => ∃ (i : Nat) (l : List Bs), m = n + 1 - i /\ 1 <= i /\ i <= n + 1 /\ l.length = n /\ l.Perm (xs.map Prod.fst) /\ (l.take i).Pairwise (· < ·) /\ env = [(3, .slice (some ⟨b, 0, none⟩) n cap), (5, .int .i64 (i : Int))] /\ L = [(b, blk (l.map str ++ post) 9)] /\ J = K) n ⟨1, ks, by omega, by omega, by omega, hnn, hp, by
    cases ks with
    | nil => exact List.Pairwise.nil
    | cons x r => exact List.pairwise_singleton _ _, rfl, rfl, rfl⟩ ?_
   rintro m env L K ⟨i, l, rfl, h1i, hi, hln, hlp, hs, rfl, rfl, rfl⟩ ih
   by_cases hlt : i < n
   ·skip
    repeat refine rS ?_
    refine rO (fun Z hZ => (eE rfl (eE rfl (eE rfl (kT (Ev.lss rfl rfl) (by omega) (zN hZ ?_))))))
    repeat (first | refine rS ?_ | refine rK ?_ | refine rB ?_ | refine rT rfl ?_)
    refine rO (fun Z hZ => (eE rfl (eE rfl (zN hZ ((rB ?_))))))
    obtain ⟨x, hx⟩ : ∃ x, l[i]? = some x := ⟨l[i], List.getElem?_eq_getElem (by omega)⟩
    have hsplit : l = l.take i ++ x :: ([] ++ l.drop (i + 1)) := by
     obtain ⟨hil, rfl⟩ := List.getElem?_eq_some_iff.1 hx
     rw [List.nil_append, <- List.drop_eq_getElem_cons hil, List.take_append_drop]
    have hnl : l.Nodup := hlp.symm.nodup hnd
    refine Run.keep [3, 5, 6] [_, _, _] rfl ?_
    refine Run.rounds (fun m env L K => ∃ (A B R : List Bs), m = A.length /\ A.length + B.length = i /\ (A ++ x :: (B ++ R)).length = n /\ (A ++ x :: (B ++ R)).Perm (xs.map Prod.fst) /\ (A ++ B).Pairwise (· < ·) /\ (∀ y ∈ B, x < y) /\
     env = [(3, .slice (some ⟨b, 0, none⟩) n cap), (5, .int .i64 (i : Int)), (6, .int .i64 (A.length : Int))] /\ L = [(b, blk ((A ++ x :: (B ++ R)).map str ++ post) 9)] /\ J = K) i ⟨l.take i, [], l.drop (i + 1), by rw [List.length_take]; omega, by rw [List.length_take, List.length_nil]; omega, by rw [<- hsplit]; exact hln, by rw [<- hsplit]; exact hlp, by rw [List.append_nil]; exact hs, fun y hy => (by cases hy), by rw [List.length_take, Nat.min_eq_left (by omega)]; rfl, by rw [<- hsplit], rfl⟩ ?_
    rintro m env L K ⟨A, B, R, rfl, hab, hal, hap, hAB, hB, rfl, rfl, rfl⟩ ih2
    have next : ∀ (hA' : ∀ A' y, A = A' ++ [y] -> y < x), ((A ++ x :: (B ++ R)).take (i + 1)).Pairwise (· < ·) := fun hA' => by
     have e : A ++ x :: (B ++ R) = (A ++ x :: B) ++ R := by simp
     rw [e, List.take_left' (by simp only [List.length_append, List.length_cons]; omega)]
     exact ins_done hAB hB hA'
    rcases List.eq_nil_or_concat A with hA0 | ⟨A', y, hA1⟩
    ·subst hA0
     have hnx := next fun A' y e => by cases A' <;> cases e
     repeat refine rS ?_
     refine rQ (fun Z hZ => (eE rfl (kF (Ev.gtr rfl rfl) (by simp) (eE rfl ?_))))
     iterate 10 refine oF ?_
     refine eE rfl (zN hZ ?_)
     repeat (first | refine rI ?_ | refine Run.exit rfl ?_ | refine rF rfl ?_)
     refine rO (fun Z hZ => (eE rfl (fE (Ev.addK (r := ((i + 1 : Nat) : Int)) rfl rfl (by rw [wI (by omega) (by omega)]; omega)) (eE rfl (zN hZ ?_)))))
     skip
     refine Run.keep [3, 5] [_, _] rfl ?_
     exact ih (n + 1 - (i + 1)) _ _ _ (by omega) ⟨i + 1, _, rfl, by omega, by omega, hal, hap, hnx, rfl, rfl, rfl⟩
    ·rw [List.concat_eq_append] at hA1
     subst hA1
     have hAl : (A' ++ [y]).length = A'.length + 1 := by simp
     have hal' : A'.length + 1 < n := by
      have := hal
      simp only [List.length_append, List.length_cons] at this; simp at this; omega
     have hix : ((A' ++ [y] ++ x :: (B ++ R)).map str ++ post)[0 + (((A'.length + 1 : Nat) : Int)).toNat * 1]? = some (str x) := by
      rw [show 0 + (((A'.length + 1 : Nat) : Int)).toNat * 1 = A'.length + 1 by omega]
      exact strs_nth (by rw [List.getElem?_append_right (by simp)]; simp)
     have hiy : ((A' ++ [y] ++ x :: (B ++ R)).map str ++ post)[0 + ((((A'.length + 1 : Nat) : Int)) - 1).toNat * 1]? = some (str y) := by
      rw [show 0 + ((((A'.length + 1 : Nat) : Int)) - 1).toNat * 1 = A'.length by omega]
      exact strs_nth (by rw [List.append_assoc, List.getElem?_append_right (Nat.le_refl _)]; simp)
     have hne : x ≠ y := fun e => by
      have := hap.symm.nodup hnd
      rw [e] at this
      simp only [List.append_assoc, List.cons_append, List.nil_append] at this
      have h2 := (List.nodup_append.1 this).2.1
      exact (List.nodup_cons.1 h2).1 (by simp)
     rw [hAl]
     by_cases hxy : x < y
     ·skip
      repeat refine rS ?_
      refine rQ (fun Z hZ => (eE rfl (kT (Ev.gtr rfl rfl) (by omega) (eE rfl (eE rfl (eE rfl (fE (Ev.indexS T rfl rfl rfl rfl om om) (gY (Yv.load 0 T rfl rfl rfl hix) (eE rfl (eE rfl (fE (Ev.subI rfl rfl (wI om om)) (fE (Ev.indexS T rfl rfl rfl rfl om om) (gY (Yv.load 0 T rfl rfl rfl hiy) (kT (Ev.lssS rfl rfl) hxy (eE rfl (zN hZ ?_))))))))))))))))
      repeat (first | refine rS ?_ | refine rK ?_ | refine rB ?_ | refine rT rfl ?_)
      refine Run.regionAny (fun _ => True) (bl 18 0) (by kernel_rfl) (by kernel_rfl) (RAny.tk 0 (bl 18 1) rfl (by kernel_rfl) dc (fun _ _ => trivial) (Yld.eval T rfl rfl) (RAny.tk 1 (bl 18 3) rfl (by kernel_rfl) dc (fun _ _ => trivial) (Yld.eval T rfl rfl) (RAny.tk 2 (bl 18 7) rfl (by kernel_rfl) dc (fun _ _ => trivial) (Yld.eval T rfl rfl) (RAny.tk 3 (bl 18 15) rfl (by kernel_rfl) dc (fun _ _ => trivial) (Yld.eval T rfl rfl) (RAny.tk 4 (bl 18 31) rfl (by kernel_rfl) dc (fun _ _ => trivial) (Yld.ev (Ev.subI rfl rfl (wI (by omega) (by omega))) rfl) (RAny.tk 5 (bl 18 63) rfl (by kernel_rfl) dc (fun _ _ => trivial) (Yld.eval T rfl rfl) (RAny.tk 6 (bl 18 127) rfl (by kernel_rfl) dc (fun _ _ => trivial) (Yld.eval T rfl rfl) (RAny.tk 7 (bl 18 255) rfl (by kernel_rfl) dc (fun _ _ => trivial) (Yld.ev (Ev.subI rfl rfl (wI (by omega) (by omega))) rfl) ?_))))))))
      refine RAny.tk 8 (bl 18 511) rfl (by kernel_rfl) dc (fun _ _ => trivial) (Yld.ev (Ev.indexS T rfl rfl rfl rfl (by omega) (by omega)) rfl) (RAny.tk 10 (bl 18 1535) rfl (by kernel_rfl) dc (fun _ _ => trivial) (Yld.eval T rfl rfl) (RAny.tk 11 (bl 18 3583) rfl (by kernel_rfl) dc (fun _ _ => trivial) (Yld.eval T rfl rfl) (RAny.tk 12 (bl 18 7679) rfl (by kernel_rfl) dc (fun _ _ => trivial) (Yld.ev (Ev.indexS T rfl rfl rfl rfl (by omega) (by omega)) rfl) ?_)))
      refine RAny.two 9 13 (bl 18 8191) (bl 18 15871) rfl rfl (by kernel_rfl) rfl rfl dc dc (Eff.yv (Yv.load 0 T rfl rfl rfl hiy) ⟨fun _ _ => trivial, ?_⟩) (Eff.yv (Yv.load 0 T rfl rfl rfl hix) ⟨fun _ _ => trivial, ?_⟩)
      skip
      ·skip
       skip
       refine RAny.on 13 (bl 18 16383) rfl (by kernel_rfl) rfl dc (Eff.yv (Yv.load 0 T rfl rfl rfl hix) ⟨fun _ _ => trivial, (RAny.tk 14 (bl 18 32767) rfl (by kernel_rfl) dc (fun _ _ => trivial) (Yld.ev (Ev.indexS T rfl rfl rfl rfl (by omega) (by omega)) rfl) (RAny.os 15 (bl 18 65535) rfl (by kernel_rfl) rfl (Eff.store 0 rfl rfl rfl rfl (T.sizeOk rfl) rfl (List.getElem?_eq_some_iff.1 hix).1 rfl rfl ⟨fun _ _ => trivial, (RAny.tk 16 (bl 18 131071) rfl (by kernel_rfl) dc (fun _ _ => trivial) (Yld.ev (Ev.indexS T rfl rfl rfl rfl (by omega) (by omega)) rfl) (RAny.os 17 (bl 18 262143) rfl (by kernel_rfl) rfl (Eff.store 0 rfl rfl rfl rfl (T.sizeOk rfl) rfl (by rw [setAt_length (List.getElem?_eq_some_iff.1 hix).1]; exact (List.getElem?_eq_some_iff.1 hiy).1) rfl rfl ⟨fun _ _ => trivial, (RAny.done _ (by kernel_rfl) ?_)⟩)))⟩)))⟩)
       refine Run.perm (L' := [(b, blk (setAt (setAt ((A' ++ [y] ++ x :: (B ++ R)).map str ++ post) (0 + (((A'.length + 1 : Nat) : Int)).toNat * 1) [str y]) (0 + ((((A'.length + 1 : Nat) : Int)) - 1).toNat * 1) [str x]) 9)]) (List.Perm.refl _) ?_
       rw [show 0 + (((A'.length + 1 : Nat) : Int)).toNat * 1 = A'.length + 1 by omega, show 0 + ((((A'.length + 1 : Nat) : Int)) - 1).toNat * 1 = A'.length by omega, List.append_assoc, List.singleton_append, setAt_swap]
       refine rI ?_
       refine rO (fun Z hZ => (eE rfl (fE (Ev.subI (r := (A'.length : Int)) rfl rfl (by rw [wI (by omega) (by omega)]; omega)) (eE rfl (zN hZ ?_)))))
       skip
       refine Run.keep [3, 5, 6] [_, _, _] rfl ?_
       have hswap : (A' ++ x :: ((y :: B) ++ R)).Perm (A' ++ [y] ++ x :: (B ++ R)) := by
        rw [List.append_assoc]
        exact (List.Perm.swap _ _ _).append_left A'
       exact ih2 A'.length _ _ _ (by simp) ⟨A', y :: B, R, rfl, by rw [List.length_cons]; rw [hAl] at hab; omega, by rw [hswap.length_eq]; exact hal, hswap.trans hap, by rw [List.append_assoc] at hAB; exact hAB, fun z hz => by
        rcases List.mem_cons.1 hz with rfl | hz
        ·exact hxy
        ·exact hB z hz, rfl, rfl, rfl⟩
      ·skip
       skip
       skip
       refine RAny.on 9 (bl 18 16383) rfl (by kernel_rfl) rfl dc (Eff.yv (Yv.load 0 T rfl rfl rfl hiy) ⟨fun _ _ => trivial, (RAny.tk 14 (bl 18 32767) rfl (by kernel_rfl) dc (fun _ _ => trivial) (Yld.ev (Ev.indexS T rfl rfl rfl rfl (by omega) (by omega)) rfl) (RAny.os 15 (bl 18 65535) rfl (by kernel_rfl) rfl (Eff.store 0 rfl rfl rfl rfl (T.sizeOk rfl) rfl (List.getElem?_eq_some_iff.1 hix).1 rfl rfl ⟨fun _ _ => trivial, (RAny.tk 16 (bl 18 131071) rfl (by kernel_rfl) dc (fun _ _ => trivial) (Yld.ev (Ev.indexS T rfl rfl rfl rfl (by omega) (by omega)) rfl) (RAny.os 17 (bl 18 262143) rfl (by kernel_rfl) rfl (Eff.store 0 rfl rfl rfl rfl (T.sizeOk rfl) rfl (by rw [setAt_length (List.getElem?_eq_some_iff.1 hix).1]; exact (List.getElem?_eq_some_iff.1 hiy).1) rfl rfl ⟨fun _ _ => trivial, (RAny.done _ (by kernel_rfl) ?_)⟩)))⟩)))⟩)
       refine Run.perm (L' := [(b, blk (setAt (setAt ((A' ++ [y] ++ x :: (B ++ R)).map str ++ post) (0 + (((A'.length + 1 : Nat) : Int)).toNat * 1) [str y]) (0 + ((((A'.length + 1 : Nat) : Int)) - 1).toNat * 1) [str x]) 9)]) (List.Perm.refl _) ?_
       rw [show 0 + (((A'.length + 1 : Nat) : Int)).toNat * 1 = A'.length + 1 by omega, show 0 + ((((A'.length + 1 : Nat) : Int)) - 1).toNat * 1 = A'.length by omega, List.append_assoc, List.singleton_append, setAt_swap]
       refine rI ?_
       refine rO (fun Z hZ => (eE rfl (fE (Ev.subI (r := (A'.length : Int)) rfl rfl (by rw [wI (by omega) (by omega)]; omega)) (eE rfl (zN hZ ?_)))))
       skip
       refine Run.keep [3, 5, 6] [_, _, _] rfl ?_
       have hswap : (A' ++ x :: ((y :: B) ++ R)).Perm (A' ++ [y] ++ x :: (B ++ R)) := by
        rw [List.append_assoc]
        exact (List.Perm.swap _ _ _).append_left A'
       exact ih2 A'.length _ _ _ (by simp) ⟨A', y :: B, R, rfl, by rw [List.length_cons]; rw [hAl] at hab; omega, by rw [hswap.length_eq]; exact hal, hswap.trans hap, by rw [List.append_assoc] at hAB; exact hAB, fun z hz => by
        rcases List.mem_cons.1 hz with rfl | hz
        ·exact hxy
        ·exact hB z hz, rfl, rfl, rfl⟩
     ·have hnx := next fun A2 y2 e => by
       have := List.append_inj_right' e rfl
       cases this
       exact blt_of_not hxy hne
      repeat refine rS ?_
      refine rQ (fun Z hZ => (eE rfl (kT (Ev.gtr rfl rfl) (by omega) (eE rfl (eE rfl (eE rfl (fE (Ev.indexS T rfl rfl rfl rfl om om) (gY (Yv.load 0 T rfl rfl rfl hix) (eE rfl (eE rfl (fE (Ev.subI rfl rfl (wI om om)) (fE (Ev.indexS T rfl rfl rfl rfl om om) (gY (Yv.load 0 T rfl rfl rfl hiy) (kF (Ev.lssS rfl rfl) hxy (eE rfl (zN hZ ?_))))))))))))))))
      repeat (first | refine rI ?_ | refine Run.exit rfl ?_ | refine rF rfl ?_)
      refine rO (fun Z hZ => (eE rfl (fE (Ev.addK (r := ((i + 1 : Nat) : Int)) rfl rfl (by rw [wI (by omega) (by omega)]; omega)) (eE rfl (zN hZ ?_)))))
      skip
      refine Run.keep [3, 5] [_, _] rfl ?_
      exact ih (n + 1 - (i + 1)) _ _ _ (by omega) ⟨i + 1, _, rfl, by omega, by omega, hal, hap, hnx, rfl, rfl, rfl⟩
   ·rw [List.take_of_length_le (by omega)] at hs
    have hfin := sorted_eq hlp hs hpw
    subst hfin
    repeat refine rS ?_
    refine rO (fun Z hZ => (eE rfl (eE rfl (eE rfl (kF (Ev.lss rfl rfl) (by omega) (zN hZ ?_))))))
    repeat (first | refine rS ?_ | refine Run.exit rfl ?_ | refine rF rfl ?_)
    refine rO (fun Z hZ => (eE rfl (eE rfl (zN hZ ?_))))
    skip
    refine Run.freeze fun J2 hle2 hJ2 => ?_
    refine Run.fin (Run.ret1 (by rw [hCf]; exact func57) results57 rfl (hR _ _ _ ?_))
    exact ⟨rfl, some ⟨b, 0, none⟩, cap, by rw [hln], by rw [hln]; exact hmc, .inr ⟨b, 0, rfl, fun j y hy => ⟨[str y], rfl, by
     have := (At.block hJ2).cellAt j (strs_nth hy)
     show At J2 b (0 + j * 1) [str y]
     rw [Nat.mul_one]
     exact this⟩⟩⟩
 ·have hmem : e ∈ es.toList := (List.mem_filter.1 he).1
  have hke := hk2 e hmem
  refine oP rfl (Ops.nil ?_)
  repeat (first | refine rS ?_ | refine rK ?_ | refine rB ?_ | refine rT rfl ?_)
  refine Run.region (Ops.entryI 0 (hle _ _ hI) hn hmem rfl dc rfl rfl ?_)
  rw [hke]
  iterate 2 refine oP rfl ?_
  refine Ops.nil ?_
  skip
  refine Run.region (oP rfl (oP rfl (Ops.lit T rfl rfl rfl dc rfl dc dc rfl rfl rfl rfl rfl (fun bq => (Ops.appOne (N := [_]) el24 hG rfl rfl dc rfl rfl rfl rfl om om ?_)))))
  rintro v2 M2 hG2
  refine oP rfl (Ops.nil (rI (Run.keep [3, 8] [_, _] rfl ?_)))
  have hpe := lef_push es seen e hn he
  have hpl := hpe.length_eq
  rw [List.length_cons] at hpl
  have hp2 : (ks ++ (lef es seen).map fun e => valT e.key).Perm (ks ++ [valT e.key] ++ (lef es (seen.push e.born)).map fun e => valT e.key) := by
   rw [List.append_assoc]
   exact (hpe.map fun e => valT e.key).append_left ks
  exact ih (lef es (seen.push e.born)).length _ _ _ (by omega) ⟨_, _, _, v2, M2, rfl, hp2.symm.trans hp, hG2, Nat.le_refl _, rfl, rfl, hle⟩
end Go.V
namespace Go.V
open Go.Proofs.Tryz
open Go.RowKit
set_option maxRecDepth 10000
attribute [local irreducible] Run Ops QD
theorem zz_KeysNone (I : Imm) : Pure prog 57 [.map none] I fun w J => w = .slice none 0 0 := by
 refine Spec.enter 57 [(0, _)] func57 rfl ntmps57 (by simp) rfl ?_
 intro C hCf hR hCI
 refine rS ?_
 refine rO (fun Z hZ => (eE rfl (zN hZ ((rS (rO (fun Z hZ => (eE rfl (zN hZ ?_)))))))))
 repeat refine rS ?_
 refine Run.region (oP rfl (Ops.rangeNil T rfl dc rfl rfl fun r => (Ops.nil (rB (Run.loop ?_)))))
 refine rS ?_
 refine Run.region (Ops.nextNil 0 rfl dc rfl rfl (oP rfl (Ops.nil ?_)))
 repeat (first | refine rS ?_ | refine Run.exit rfl ?_ | refine rF rfl ?_)
 refine rO (fun Z hZ => (eE rfl (zN hZ ((rB (Run.loop ?_))))))
 repeat refine rS ?_
 refine rO (fun Z hZ => (eE rfl (eE rfl (eE rfl (fE (Ev.lss rfl rfl) (zN hZ ?_))))))
 repeat (first | refine rS ?_ | refine Run.exit rfl ?_ | refine rF rfl ?_)
 refine rO (fun Z hZ => (eE rfl (eE rfl (zN hZ ?_))))
 skip
 refine Run.fin (Run.ret1 (by rw [hCf]; exact func57) results57 rfl (hR _ _ _ ?_))
 exact ⟨rfl, rfl⟩
set_option maxHeartbeats 1000000 in
theorem impl_pairsOf (I : Imm) (c : Value) (xs : List K2) (hR0 : MapR I c xs) (hA : Asc xs) (hl : xs.length <= 1000000) : Pure prog 45 [c] I fun w J => Sl tK2 J w xs := by
 rcases hR0 with ⟨rfl, rfl⟩ | ⟨m, o, rfl, hI, hM⟩
 ·skip
  refine Spec.enter 25 [(0, _)] func45 rfl ntmps45 (by simp) rfl ?_
  intro C hCf hR hCI
  refine rS ?_
  refine rO (fun Z hZ => (eE rfl (zN hZ ?_)))
  repeat refine rS ?_
  refine rO (fun Z hZ => (eE rfl (fE (Ev.neqNil T rfl rfl rfl rfl rfl) (zN hZ ?_))))
  repeat (first | refine rS ?_ | refine rK ?_ | refine rF rfl ?_)
  refine rP 1 (fun Z hZ => (eE rfl (zN hZ ((Ops.call ((zz_KeysNone I)) rfl dc call57 rfl ?_)))))
  rintro _ J l rfl
  iterate 2 refine oP rfl ?_
  refine Ops.nil (rB (Run.loop ?_))
  refine rS ?_
  refine rO (fun Z hZ => (fE (Ev.lss rfl rfl) (zN hZ ?_)))
  repeat (first | refine rS ?_ | refine Run.exit rfl ?_ | refine rF rfl ?_)
  refine rO (fun Z hZ => (eE rfl (eE rfl (zN hZ ?_))))
  skip
  refine Run.fin (Run.ret1 (by rw [hCf]; exact func45) results45 rfl (hR _ _ _ ?_))
  exact ⟨rfl, Sl.nil _ _⟩
 ·have hnd := lt_nodup (asc_pairwise hA)
  refine Spec.enter 25 [(0, _)] func45 rfl ntmps45 (by simp) rfl ?_
  intro C hCf hR hCI
  refine rS ?_
  refine rO (fun Z hZ => (eE rfl (zN hZ ?_)))
  repeat refine rS ?_
  refine rO (fun Z hZ => (eE rfl (fE (Ev.neqNil T rfl rfl rfl rfl rfl) (zN hZ ((rT rfl (Run.region (Ops.lit T rfl rfl rfl dc rfl dc dc rfl rfl rfl rfl rfl (fun b => (oP rfl (Ops.nil ?_)))))))))))
  repeat refine rS ?_
  refine rP 1 (fun Z hZ => (eE rfl (zN hZ ((Ops.call ((zz_Keys I m o xs hI hM hA hl)) rfl dc call57 rfl ?_)))))
  rintro _ J1 l1 hS
  obtain ⟨Ak, ck, rfl⟩ := hS.isSl
  iterate 2 refine oP rfl ?_
  refine Ops.nil ?_
  have hM' := hM
  rw [kvs_eq _ xs rfl hnd] at hM'
  have hkl : (xs.map Prod.fst).length = xs.length := List.length_map _
  refine rB ?_
  refine Run.keep [0, 2, 9, 10, 11] [_, _, _, _, _] rfl ?_
  refine Run.rounds (fun q env L J => ∃ (i : Nat) (v : Value) (M : Own), q = xs.length - i /\ i <= xs.length /\ Gr tK2 J 48 v (xs.take i) M /\
   env = [(0, .map (some m)), (2, v), (9, .slice Ak (xs.map Prod.fst).length ck), (10, .int .i64 ((xs.map Prod.fst).length : Int)), (11, .int .i64 (i : Int))] /\ L = M /\ Le J1 J) xs.length ⟨0, _, _, by omega, by omega, Gr.lit0 tK2 J1 _ b, rfl, rfl, Le.refl _⟩ ?_
  rintro q env L J ⟨i, v, M, rfl, hi, hG, rfl, rfl, hle⟩ ih
  by_cases hlt : i < xs.length
  ·skip
   refine rS ?_
   refine rO (fun Z hZ => (kT (Ev.lss rfl rfl) (by omega) (zN hZ ?_)))
   repeat (first | refine rS ?_ | refine rK ?_ | refine rB ?_ | refine rT rfl ?_)
   refine Run.region ?_
   have hSJ := hS.mono hle
   refine Ops.indexSl hSJ rfl dc rfl rfl (T.undOk rfl) (T.sizeOk rfl) om om ?_
   rintro b_ off_ k cs_ hk hr_ hA_
   obtain rfl : cs_ = [_] := hr_
   refine Ops.loadI rfl dc rfl hA_ (T.aggOk rfl) (oP rfl (Ops.nil ?_))
   rw [show ((i : Int)).toNat = i by omega, List.getElem?_map] at hk
   obtain ⟨p, hp⟩ : ∃ p, xs[i]? = some p := ⟨xs[i], List.getElem?_eq_getElem hlt⟩
   rw [hp] at hk
   obtain rfl : p.1 = k := Option.some.inj hk
   have hget := mget_kvl hnd (List.mem_of_getElem? hp)
   skip
   refine Run.region ?_
   iterate 4 refine oP rfl ?_
   refine Ops.mapGetV T (hle m o (l1 m o hI)) hM' rfl dc rfl rfl rfl rfl rfl ?_
   rw [hget]
   refine Ops.buildL bd48 rfl dc rfl rfl (Ops.lit T rfl rfl rfl dc rfl dc dc rfl rfl rfl rfl rfl (fun bq => (Ops.appOne (N := []) el25 hG rfl rfl dc rfl rfl rfl rfl om om ?_)))
   rintro v2 M2 hG2
   refine oP rfl (Ops.nil (rI (rO (fun Z hZ => (fE (Ev.addK (r := ((i + 1 : Nat) : Int)) rfl rfl (by rw [wI (by omega) (by omega)]; omega)) (eE rfl (zN hZ ?_)))))))
   skip
   refine Run.keep [0, 2, 9, 10, 11] [_, _, _, _, _] rfl ?_
   exact ih (xs.length - (i + 1)) _ _ _ (by omega) ⟨i + 1, v2, M2, rfl, by omega, by rw [List.take_add_one, hp]; exact hG2, rfl, rfl, hle⟩
  ·rw [List.take_of_length_le (by omega)] at hG
   refine rS ?_
   refine rO (fun Z hZ => (kF (Ev.lss rfl rfl) (by omega) (zN hZ ?_)))
   repeat (first | refine rS ?_ | refine Run.exit rfl ?_ | refine rF rfl ?_)
   refine rO (fun Z hZ => (eE rfl (eE rfl (zN hZ ?_))))
   skip
   refine Run.keepG (N := []) hG rfl fun J2 l2 hS2 => ?_
   refine Run.fin (Run.ret1 (by rw [hCf]; exact func45) results45 rfl (hR _ _ _ ?_))
   exact ⟨rfl, hS2⟩
end Go.V
namespace Go.V
open Go.Proofs.Tryz
open Go.RowKit
set_option maxRecDepth 10000
attribute [local irreducible] Run Ops QD
theorem impl_hashOf (I : Imm) (a b : Bs) : Pure prog 58 [.agg [str a, str b].toArray] I fun w J => w = .agg [str a, str b].toArray := by
 refine Spec.enter 4 [(0, _)] func58 rfl ntmps58 (by simp) rfl ?_
 intro C hCf hR hCI
 refine rS ?_; refine Run.region ?_
 refine Ops.box rfl dc rfl rfl (fun b => (Ops.alloc rfl dc (T.zeroOk rfl) rfl (fun b2 => ?_)))
 repeat (first | refine rS ?_ | refine Run.region ?_ | refine Ops.nil ?_ | refine Ops.loadN 1 rfl (by decide) rfl rfl (T.aggOk rfl) (T.sizeOk rfl) rfl rfl ?_ | refine Ops.store 0 rfl rfl rfl rfl rfl (T.sizeOk rfl) rfl (lb rfl) rfl rfl ?_)
 refine Run.retC T 0 (by rw [hCf]; exact func58) results58 rfl rfl rfl rfl rfl rfl (hR _ _ _ ?_)
 exact ⟨rfl, rfl⟩
theorem impl_platformOfR (I : Imm) (p : Pf) (A A' : Option Addr) (a a' c c' : Nat) : Pure prog 59 [.agg [str p.arch, str p.os, str p.ver, .slice A a c, str p.var, .slice A' a' c'].toArray] I fun v J => v = .agg (p.cs (.slice A a c) (.slice A' a' c')).toArray := by
 refine Spec.enter 16 [(0, _)] func59 rfl ntmps59 (by simp) rfl ?_
 intro C hCf hR hCI
 refine rS ?_; refine Run.region ?_
 refine Ops.box rfl dc rfl rfl (fun b => (Ops.alloc rfl dc (T.zeroOk rfl) rfl (fun b2 => ?_)))
 repeat (first | refine rS ?_ | refine Run.region ?_ | refine Ops.nil ?_ | refine oP rfl ?_ | refine Ops.load 1 rfl (by decide) rfl rfl (T.aggOk rfl) rfl ?_)
 refine Ops.buildL bd92 rfl dc rfl rfl ?_
 repeat (first | refine Ops.nil ?_ | refine Ops.store 0 rfl rfl rfl rfl rfl (T.sizeOk rfl) rfl (lb rfl) rfl rfl ?_)
 refine Run.retC T 0 (by rw [hCf]; exact func59) results59 rfl rfl rfl rfl rfl rfl (hR _ _ _ ?_)
 exact ⟨rfl, rfl⟩
def okO (x : Ds) : Prop := Asc x.anns /\ x.anns.length <= 1000000 /\ x.plats.length <= 1
def nDs : List Value := [str [], .int .i64 0, str [], str [], str [], .slice none 0 0, .slice none 0 0, .slice none 0 0, str []]
set_option maxHeartbeats 4000000 in
theorem impl_descriptorOf (I : Imm) (x : Ds) (dc : List Value) (hd : dsV I x dc) (hok : okO x) : Pure prog 47 [.agg dc.toArray] I fun w J => ∃ cs, w = .agg cs.toArray /\ tDs.rel J cs x := by
 obtain ⟨cd, cu, cm, cp, rfl, h1, h2, h3, h4⟩ := hd
 obtain ⟨g1, g2, g3⟩ := hok
 obtain ⟨A1, c1, rfl⟩ := h1.isSl
 obtain ⟨A2, c2, rfl⟩ := h2.isSl
 refine Spec.enter 33 [(0, _)] func47 rfl ntmps47 (by simp) rfl ?_
 intro C hCf hR hCI
 refine rS ?_
 refine Run.region (Ops.box rfl dc rfl rfl (fun b1 => (Ops.alloc rfl dc (T.zeroOk rfl) rfl (fun b2 => (Ops.nil (rS ?_))))))
 refine Run.piece (fun env' L' J' => ∃ (b3 : Nat) (A3 : Option Addr) (c3 : Nat), Sl tK2 J' (.slice A3 x.anns.length c3) x.anns /\ env' = [(1, .pointer (some ⟨b1, 0, none⟩)), (2, .pointer (some ⟨b2, 0, none⟩)), (3, .pointer (some ⟨b3, 0, none⟩))] /\
  L' = [(b3, blk (x.cs (.slice A2 x.urls.length c2) (.slice A3 x.anns.length c3) (.slice none 0 0)) 28), (b2, blk nDs 28), (b1, blk [str x.media, .int .i64 x.size, str x.dig.1, str x.dig.2, .slice A1 x.data.length c1, .slice A2 x.urls.length c2, cm, cp, str x.art] 83)] /\ Le I J') ?_ ?_
 ·intro k' fin
  refine Run.regionAny (Holds I [(b2, blk nDs 28), (b1, blk [str x.media, .int .i64 x.size, str x.dig.1, str x.dig.2, .slice A1 x.data.length c1, .slice A2 x.urls.length c2, cm, cp, str x.art] 83)]) (bl 20 0) (by kernel_rfl) (by kernel_rfl) (RAny.tk 0 (bl 20 1) rfl (by kernel_rfl) dc (fun W h => h.holds (Le.refl _) (by first | exact mp rfl | exact mq rfl)) (Yld.eval T rfl rfl) (RAny.tk 1 (bl 20 3) rfl (by kernel_rfl) dc (fun W h => h.holds (Le.refl _) (by first | exact mp rfl | exact mq rfl)) (Yld.load 1 T rfl rfl rfl rfl rfl) (RAny.tk 2 (bl 20 7) rfl (by kernel_rfl) dc (fun W h => h.holds (Le.refl _) (by first | exact mp rfl | exact mq rfl)) (Yld.eval T rfl rfl) (RAny.tk 3 (bl 20 15) rfl (by kernel_rfl) dc (fun W h => h.holds (Le.refl _) (by first | exact mp rfl | exact mq rfl)) (Yld.load 1 T rfl rfl rfl rfl rfl) ?_))))
  refine RAny.tk 4 (bl 20 31) rfl (by kernel_rfl) dc (fun W h => h.holds (Le.refl _) (by first | exact mp rfl | exact mq rfl)) (Yld.eval T rfl rfl) (RAny.tk 5 (bl 20 63) rfl (by kernel_rfl) dc (fun W h => h.holds (Le.refl _) (by first | exact mp rfl | exact mq rfl)) (Yld.loadN 1 T rfl rfl rfl rfl rfl rfl rfl) (RAny.tk 7 (bl 20 191) rfl (by kernel_rfl) dc (fun W h => h.holds (Le.refl _) (by first | exact mp rfl | exact mq rfl)) (Yld.eval T rfl rfl) (RAny.tk 8 (bl 20 447) rfl (by kernel_rfl) dc (fun W h => h.holds (Le.refl _) (by first | exact mp rfl | exact mq rfl)) (Yld.load 1 T rfl rfl rfl rfl rfl) (RAny.tk 10 (bl 20 1471) rfl (by kernel_rfl) dc (fun W h => h.holds (Le.refl _) (by first | exact mp rfl | exact mq rfl)) (Yld.eval T rfl rfl) ?_))))
  refine RAny.tk 11 (bl 20 3519) rfl (by kernel_rfl) dc (fun W h => h.holds (Le.refl _) (by first | exact mp rfl | exact mq rfl)) (Yld.load 1 T rfl rfl rfl rfl rfl) (RAny.tk 12 (bl 20 7615) rfl (by kernel_rfl) dc (fun W h => h.holds (Le.refl _) (by first | exact mp rfl | exact mq rfl)) (Yld.eval T rfl rfl) (RAny.tk 13 (bl 20 15807) rfl (by kernel_rfl) dc (fun W h => h.holds (Le.refl _) (by first | exact mp rfl | exact mq rfl)) (Yld.load 1 T rfl rfl rfl rfl rfl) (RAny.tk 15 (bl 20 48575) rfl (by kernel_rfl) dc (fun W h => h.holds (Le.refl _) (by first | exact mp rfl | exact mq rfl)) (Yld.eval T rfl rfl) (RAny.tk 16 (bl 20 114111) rfl (by kernel_rfl) dc (fun W h => h.holds (Le.refl _) (by first | exact mp rfl | exact mq rfl)) (Yld.load 1 T rfl rfl rfl rfl rfl) ?_))))
  refine RAny.tk 9 (bl 20 114623) rfl (by kernel_rfl) dc (fun W h => h.holds (Le.refl _) (by first | exact mp rfl | exact mq rfl)) (Yld.yv rfl (fun _ h => h) (Yv.bytesSl T h1 rfl rfl rfl rfl)) ?_
  refine RAny.two 6 18 (bl 20 114687) (bl 20 376767) rfl rfl (by kernel_rfl) rfl rfl dc dc (Eff.call (impl_hashOf I x.dig.1 x.dig.2) call58 rfl fun y1 J1 l1 hy1 => ⟨fun W h => h.holds l1 (fun _ h => h), ?_⟩) (Eff.alloc (T.zeroOk rfl) rfl fun b3 => ⟨fun W h => h.holds (Le.refl _) (fun _ h => .tail _ h), ?_⟩)
  skip
  ·skip
   skip
   subst hy1
   refine RAny.two 14 18 (bl 20 131071) (bl 20 376831) rfl rfl (by kernel_rfl) rfl rfl dc dc (Eff.call (impl_pairsOf J1 cm x.anns (h3.mono l1) g1 g2) call45 rfl fun y2 J2 l2 hy2 => ⟨fun W h => h.holds (l1.trans l2) (fun _ h => h), ?_⟩) (Eff.alloc (T.zeroOk rfl) rfl fun b3 => ⟨fun W h => h.holds l1 (fun _ h => .tail _ h), ?_⟩)
   skip
   ·skip
    skip
    obtain ⟨A3, c3, rfl⟩ := hy2.isSl
    skip
    refine RAny.tk 17 (bl 20 262143) rfl (by kernel_rfl) dc (fun W h => h.holds (l1.trans l2) (by first | exact mp rfl | exact mq rfl)) (Yld.buildL (cs := x.cs (.slice A2 x.urls.length c2) (.slice A3 x.anns.length c3) (.slice none 0 0)) bd28 rfl rfl (by kernel_rfl)) (RAny.on 18 (bl 20 524287) rfl (by kernel_rfl) rfl dc (Eff.alloc (T.zeroOk rfl) rfl fun b3 => ⟨fun W h => h.holds (l1.trans l2) (fun _ h => .tail _ h), (RAny.os 19 (bl 20 1048575) rfl (by kernel_rfl) rfl (Eff.store 0 rfl rfl rfl rfl (T.sizeOk rfl) rfl (lb rfl) rfl rfl ⟨fun W h => h.holds (l1.trans l2) (fun _ h => .tail _ h), (RAny.done _ (by kernel_rfl) (Run.keep [1, 2, 3] [_, _, _] rfl ?_))⟩))⟩))
    exact fin _ _ _ ⟨b3, A3, c3, hy2, rfl, rfl, l1.trans l2⟩
   ·skip
    skip
    skip
    refine RAny.on 14 (bl 20 393215) rfl (by kernel_rfl) rfl dc (Eff.call (impl_pairsOf J1 cm x.anns (h3.mono l1) g1 g2) call45 rfl fun y2 J2 l2 hy2 => ⟨fun W h => h.holds (l1.trans l2) (fun _ h => .tail _ h), ?_⟩)
    obtain ⟨A3, c3, rfl⟩ := hy2.isSl
    skip
    refine RAny.tk 17 (bl 20 524287) rfl (by kernel_rfl) dc (fun W h => h.holds (l1.trans l2) (by first | exact mp rfl | exact mq rfl)) (Yld.buildL (cs := x.cs (.slice A2 x.urls.length c2) (.slice A3 x.anns.length c3) (.slice none 0 0)) bd28 rfl rfl (by kernel_rfl)) (RAny.os 19 (bl 20 1048575) rfl (by kernel_rfl) rfl (Eff.store 0 rfl rfl rfl rfl (T.sizeOk rfl) rfl (lb rfl) rfl rfl ⟨fun W h => h.holds (l1.trans l2) (fun _ h => .tail _ h), (RAny.done _ (by kernel_rfl) (Run.keep [1, 2, 3] [_, _, _] rfl ?_))⟩))
    exact fin _ _ _ ⟨b3, A3, c3, hy2, rfl, rfl, l1.trans l2⟩
  ·skip
   skip
   skip
   refine RAny.on 6 (bl 20 376831) rfl (by kernel_rfl) rfl dc (Eff.call (impl_hashOf I x.dig.1 x.dig.2) call58 rfl fun y1 J1 l1 hy1 => ⟨fun W h => h.holds l1 (fun _ h => .tail _ h), ?_⟩)
   subst hy1
   refine RAny.on 14 (bl 20 393215) rfl (by kernel_rfl) rfl dc (Eff.call (impl_pairsOf J1 cm x.anns (h3.mono l1) g1 g2) call45 rfl fun y2 J2 l2 hy2 => ⟨fun W h => h.holds (l1.trans l2) (fun _ h => .tail _ h), ?_⟩)
   obtain ⟨A3, c3, rfl⟩ := hy2.isSl
   skip
   refine RAny.tk 17 (bl 20 524287) rfl (by kernel_rfl) dc (fun W h => h.holds (l1.trans l2) (by first | exact mp rfl | exact mq rfl)) (Yld.buildL (cs := x.cs (.slice A2 x.urls.length c2) (.slice A3 x.anns.length c3) (.slice none 0 0)) bd28 rfl rfl (by kernel_rfl)) (RAny.os 19 (bl 20 1048575) rfl (by kernel_rfl) rfl (Eff.store 0 rfl rfl rfl rfl (T.sizeOk rfl) rfl (lb rfl) rfl rfl ⟨fun W h => h.holds (l1.trans l2) (fun _ h => .tail _ h), (RAny.done _ (by kernel_rfl) (Run.keep [1, 2, 3] [_, _, _] rfl ?_))⟩))
   exact fin _ _ _ ⟨b3, A3, c3, hy2, rfl, rfl, l1.trans l2⟩
 rintro env' L' J' ⟨b3, A3, c3, hS3, rfl, rfl, hle⟩
 rcases h4 with ⟨rfl, hp0⟩ | ⟨p, r, bp, pc, hp, rfl, hA, cf, cg, rfl, hf, hg⟩
 ·skip
  repeat refine rS ?_
  refine rO (fun Z hZ => (eE rfl (gY (Yv.load 2 T rfl rfl rfl rfl) (fE (Ev.neqNil T rfl rfl rfl rfl rfl) (zN hZ ?_)))))
  repeat (first | refine rS ?_ | refine rK ?_ | refine rF rfl ?_)
  refine Run.region (Ops.loadN 0 rfl dc rfl rfl (T.aggOk rfl) (T.sizeOk rfl) rfl rfl (Ops.store 1 rfl rfl rfl rfl rfl (T.sizeOk rfl) rfl (lb rfl) rfl rfl (Ops.nil ?_)))
  skip
  refine Run.retC T 1 (by rw [hCf]; exact func47) results47 rfl rfl rfl rfl rfl rfl (hR _ _ _ ?_)
  refine ⟨rfl, _, rfl, A2, c2, A3, c3, none, 0, ?_, h2.mono hle, hS3, ?_⟩
  ·rw [hp0]; rfl
  ·rw [hp0]; exact Sl.nil _ _
 ·obtain ⟨A4, c4, rfl⟩ := hf.isSl
  obtain ⟨A5, c5, rfl⟩ := hg.isSl
  have hr : r = [] := by
   rw [hp, List.length_cons] at g3
   exact List.eq_nil_of_length_eq_zero (by omega)
  subst hr
  repeat refine rS ?_
  refine rO (fun Z hZ => (eE rfl (gY (Yv.load 2 T rfl rfl rfl rfl) (fE (Ev.neqNil T rfl rfl rfl rfl rfl) (zN hZ ((rT rfl (Run.region (oP rfl (Ops.load 2 rfl dc rfl rfl (T.aggOk rfl) rfl (oP rfl (Ops.loadIN rfl dc rfl (hA.mono hle) (T.aggOk rfl) (T.sizeOk rfl) rfl (Ops.call ((impl_platformOfR J' p.1 A4 A5 _ _ _ _)) rfl dc call59 rfl ?_)))))))))))))
  rintro _ J2 l2 rfl
  refine Ops.lit T rfl rfl rfl dc rfl dc dc rfl rfl rfl rfl rfl (fun bq => (oP rfl (Ops.store 1 rfl rfl rfl rfl rfl (T.sizeOk rfl) rfl (lb rfl) rfl rfl (Ops.nil (Run.freezeAt 0 rfl rfl fun J3 l3 hJ3 => (rS ?_))))))
  refine Run.region (Ops.loadN 0 rfl dc rfl rfl (T.aggOk rfl) (T.sizeOk rfl) rfl rfl (Ops.store 1 rfl rfl rfl rfl rfl (T.sizeOk rfl) rfl (lb rfl) rfl rfl (Ops.nil ?_)))
  skip
  refine Run.retC T 1 (by rw [hCf]; exact func47) results47 rfl rfl rfl rfl rfl rfl (hR _ _ _ ?_)
  have lA : Le I J3 := (hle.trans l2).trans l3
  refine ⟨rfl, _, rfl, A2, c2, A3, c3, some ⟨bq, 0, none⟩, 1, ?_, h2.mono lA, hS3.mono (l2.trans l3), ?_⟩
  ·rw [hp]; rfl
  ·rw [hp]
   exact Sl.ofBlock hJ3 (Cells.one ⟨A4, c4, A5, c5, rfl, hf.mono lA, hg.mono lA⟩) rfl (Nat.le_refl _)
end Go.V
namespace Go.V
open Go.RowKit
set_option maxRecDepth 10000
def iv (d : Bool) (z : Int) : Int := if d then z else 0
theorem iv_end {d : Bool} {z : Int} (h : d = false -> z = 0) : iv d z = z := by
 cases d with
 | true => rfl
 | false => exact (h rfl).symm
def cfC (J : Imm) (d : Bool) (dc : List Value) (x : Ds) : Prop := if d then dsV J x dc else dc = z9
def laC (J : Imm) (nn : Bool) (d : Bool) (c : Value) (l : List Ds) : Prop := if d then laV J nn c l else c = .slice none 0 0
def sbC (J : Imm) (d : Bool) (c : Value) (l : List Ds) : Prop := if d then sbP J c l else c = .pointer none
def SbR (J : Imm) (c : Value) (l : List Ds) : Prop := (c = .pointer none /\ l = []) \/ sbP J c l
theorem cfC.mono {J K : Imm} {d : Bool} {c : List Value} {l : Ds} (h : cfC J d c l) (hle : Le J K) : cfC K d c l := by
 cases d with
 | true => exact dsV.mono h hle
 | false => exact h
theorem laC.mono {J K : Imm} {nn d : Bool} {c : Value} {l : List Ds} (h : laC J nn d c l) (hle : Le J K) : laC K nn d c l := by
 cases d with
 | true => exact laV.mono h hle
 | false => exact h
theorem sbC.mono {J K : Imm} {d : Bool} {c : Value} {l : List Ds} (h : sbC J d c l) (hle : Le J K) : sbC K d c l := by
 cases d with
 | true => exact sbP.mono h hle
 | false => exact h
theorem sbC.fin {J : Imm} {d : Bool} {c : Value} {l : List Ds} (h : sbC J d c l) (hd : d = false -> l = []) : SbR J c l := by
 cases d with
 | true => exact .inr h
 | false => exact .inl ⟨h, hd rfl⟩
theorem SbR.mono {J K : Imm} {c : Value} {l : List Ds} (h : SbR J c l) (hle : Le J K) : SbR K c l := h.imp id fun h => h.mono hle
def mfSt (J : Imm) (m : Mf) (nn : Bool) (D : Int -> Bool) (mc : List Value) : Prop := ∃ d0 d1 d2 d3 d4 d5 d6 d7 d8 cl ca cb, mc = [.int .i64 (iv (D 0) m.ver), str (tx (D 1) m.media), d0, d1, d2, d3, d4, d5, d6, d7, d8, cl, ca, cb, str (tx (D 6) m.art)] /\
 cfC J (D 2) [d0, d1, d2, d3, d4, d5, d6, d7, d8] m.cfg /\ laC J nn (D 3) cl m.lays /\ mpC J (D 4) ca m.anns /\ sbC J (D 5) cb m.subj
theorem mfSt.mono {J K : Imm} {m : Mf} {nn : Bool} {D : Int -> Bool} {mc : List Value} (h : mfSt J m nn D mc) (hle : Le J K) : mfSt K m nn D mc := by
 obtain ⟨d0, d1, d2, d3, d4, d5, d6, d7, d8, cl, ca, cb, h1, h2, h3, h4, h5⟩ := h
 exact ⟨d0, d1, d2, d3, d4, d5, d6, d7, d8, cl, ca, cb, h1, h2.mono hle, h3.mono hle, h4.mono hle, h5.mono hle⟩
def mfV (J : Imm) (m : Mf) (nn : Bool) (mc : List Value) : Prop := ∃ d0 d1 d2 d3 d4 d5 d6 d7 d8 cl ca cb, mc = [.int .i64 m.ver, str m.media, d0, d1, d2, d3, d4, d5, d6, d7, d8, cl, ca, cb, str m.art] /\ dsV J m.cfg [d0, d1, d2, d3, d4, d5, d6, d7, d8] /\ laV J nn cl m.lays /\ MapR J ca m.anns /\ SbR J cb m.subj
theorem mfSt.fin {J : Imm} {m : Mf} {nn : Bool} {D : Int -> Bool} {mc : List Value} (h : mfSt J m nn D mc) (hE : mfE m nn D) : mfV J m nn mc := by
 obtain ⟨d0, d1, d2, d3, d4, d5, d6, d7, d8, cl, ca, cb, rfl, h2, h3, h4, h5⟩ := h
 obtain ⟨e0, e1, e2, e3, e4, e5, e6⟩ := hE
 rw [e2] at h2
 rw [e3] at h3
 rw [iv_end e0, tx_end e1, tx_end e6]
 exact ⟨d0, d1, d2, d3, d4, d5, d6, d7, d8, cl, ca, cb, rfl, h2, h3, h4.fin e4, h5.fin e5⟩
def ixSt (J : Imm) (m : Mf) (nn : Bool) (D : Int -> Bool) (mc : List Value) : Prop := ∃ cl ca cb, mc = [.int .i64 (iv (D 0) m.ver), str (tx (D 1) m.media), cl, ca, cb, str (tx (D 5) m.art)] /\ laC J nn (D 2) cl m.lays /\ mpC J (D 3) ca m.anns /\ sbC J (D 4) cb m.subj
theorem ixSt.mono {J K : Imm} {m : Mf} {nn : Bool} {D : Int -> Bool} {mc : List Value} (h : ixSt J m nn D mc) (hle : Le J K) : ixSt K m nn D mc := by
 obtain ⟨cl, ca, cb, h1, h3, h4, h5⟩ := h
 exact ⟨cl, ca, cb, h1, h3.mono hle, h4.mono hle, h5.mono hle⟩
def ixV (J : Imm) (m : Mf) (nn : Bool) (mc : List Value) : Prop := ∃ cl ca cb, mc = [.int .i64 m.ver, str m.media, cl, ca, cb, str m.art] /\ laV J nn cl m.lays /\ MapR J ca m.anns /\ SbR J cb m.subj
theorem laC.fin {J : Imm} {nn d : Bool} {c : Value} {l : List Ds} (h : laC J nn d c l) (hd : d = false -> nn = false /\ l = []) : laV J nn c l := by
 cases d with
 | true => exact h
 | false =>
  obtain ⟨rfl, rfl⟩ := hd rfl
  rw [show c = _ from h]
  exact ⟨Sl.nil _ _, .inl ⟨rfl, rfl⟩⟩
theorem ixSt.fin {J : Imm} {m : Mf} {nn : Bool} {D : Int -> Bool} {mc : List Value} (h : ixSt J m nn D mc) (hE : ixE m nn D) : ixV J m nn mc := by
 obtain ⟨cl, ca, cb, rfl, h3, h4, h5⟩ := h
 obtain ⟨e0, e1, e2, e3, e4, e5⟩ := hE
 rw [iv_end e0, tx_end e1, tx_end e5]
 exact ⟨cl, ca, cb, rfl, h3.fin e2, h4.fin e3, h5.fin e4⟩
def okMt (m : Mf) : Prop := m.lays.length <= 100000 /\ (∀ d ∈ m.lays, okDt d) /\ (∀ d ∈ m.subj, okDt d) /\ m.anns.length <= 1000000 /\ -9223372036854775808 <= m.ver /\ m.ver <= 9223372036854775807
end Go.V
namespace Go.V
open Go.Proofs.Tryz
open Go.RowKit
set_option maxRecDepth 10000
attribute [local irreducible] Run Ops QD
theorem Gr.some {α : Type} {t : Ty α} {I : Imm} {e : TypeId} {v : Value} {xs : List α} {M : Own} (h : Gr t I e v xs M) (hne : xs ≠ []) : ∃ a n c, v = .slice (some a) n c := by
 obtain ⟨cs, ⟨h1, h2⟩, h3⟩ := h
 rcases h2 with ⟨_, h4, _⟩ | ⟨b, cap, cur, h4, _⟩
 ·exact absurd (List.eq_nil_of_length_eq_zero h4) hne
 ·exact ⟨_, _, _, h4⟩
set_option maxHeartbeats 4000000 in
theorem impl_descriptorsOf (I : Imm) (nn : Bool) (c : Value) (l : List Ds) (hL : laV I nn c l) (hok : ∀ d ∈ l, okO d) (hl : l.length <= 100000) : Pure prog 44 [c] I fun w J => Sl tDs J w l /\ ∃ A n k, w = .slice A n k /\ A.isSome = nn := by
 obtain ⟨hS, ⟨rfl, rfl⟩ | ⟨rfl, a, n, k, rfl⟩⟩ := hL
 ·obtain ⟨A', c', e, _, _⟩ := hS
  injection e with _ e2 _
  have hl0 : l = [] := List.eq_nil_of_length_eq_zero e2.symm
  subst hl0
  exact (impl_descriptorsOfNil I).mono fun w J _ h => ⟨by rw [h]; exact Sl.nil _ _, none, 0, 0, h, rfl⟩
 ·obtain ⟨A', k', e⟩ := hS.isSl
  cases e
  have hS0 := hS
  refine Spec.enter 21 [(0, _)] func44 rfl ntmps44 (by simp) rfl ?_
  intro C hCf hR hCI
  refine rS ?_
  refine rO (fun Z hZ => (eE rfl (zN hZ ?_)))
  repeat refine rS ?_
  refine rO (fun Z hZ => (eE rfl (fE (Ev.neqNil T rfl rfl rfl rfl rfl) (zN hZ ((rT rfl (Run.region (Ops.lit T rfl rfl rfl dc rfl dc dc rfl rfl rfl rfl rfl (fun b => (oP rfl (Ops.nil ?_)))))))))))
  repeat refine rS ?_
  refine rO (fun Z hZ => (eE rfl (eE rfl (eE rfl (zN hZ ((rB (Run.keep [2, 8, 9, 10] [_, _, _, _] rfl ?_))))))))
  refine Run.rounds (fun q env L J => ∃ (i : Nat) (v : Value) (M : Own), q = l.length - i /\ i <= l.length /\ Gr tDs J 28 v (l.take i) M /\ (∃ a n c, v = .slice (some a) n c) /\
   env = [(2, v), (8, .slice (some a) l.length k), (9, .int .i64 (l.length : Int)), (10, .int .i64 (i : Int))] /\ L = M /\ Le I J) l.length ⟨0, _, _, by omega, by omega, Gr.lit0 tDs I _ b, ⟨_, _, _, rfl⟩, rfl, rfl, Le.refl _⟩ ?_
  rintro q env L J ⟨i, v, M, rfl, hi, hG, hv, rfl, rfl, hle⟩ ih
  by_cases hlt : i < l.length
  ·skip
   refine rS ?_
   refine rO (fun Z hZ => (kT (Ev.lss rfl rfl) (by omega) (zN hZ ?_)))
   repeat (first | refine rS ?_ | refine rK ?_ | refine rB ?_ | refine rT rfl ?_)
   refine Run.region (Ops.indexSl (hS.mono hle) rfl dc rfl rfl (T.undOk rfl) (fun w => T.sizeOk rfl w) (by omega) (by omega) ?_)
   rintro bx ox x kc hkx hkr hkA
   rw [show ((i : Int)).toNat = i by omega] at hkx
   have hkr0 : dsV J x kc := hkr
   obtain ⟨cd, cu, cm, cp, rfl, k1, k2, k3, k4⟩ := id hkr0
   obtain ⟨q1, q2, rfl⟩ := k1.isSl
   obtain ⟨q3, q4, rfl⟩ := k2.isSl
   obtain ⟨q5, rfl⟩ : ∃ q, cm = .map q := by rcases k3 with ⟨h, _⟩ | ⟨m, o, h, _⟩ <;> exact ⟨_, h⟩
   obtain ⟨q6, rfl⟩ : ∃ q, cp = .pointer q := by
    rcases k4 with ⟨h, _⟩ | ⟨_, _, b, _, _, h, _⟩
    ·exact ⟨_, h⟩
    ·exact ⟨_, h⟩
   refine Ops.loadIN rfl dc rfl hkA (T.aggOk rfl) (T.sizeOk rfl) rfl (Ops.alloc rfl dc (T.zeroOk rfl) rfl (fun b4 => (Ops.store 0 rfl rfl rfl rfl rfl (T.sizeOk rfl) rfl (lb rfl) rfl rfl (Ops.nil ?_))))
   skip
   refine Run.region (oP rfl (Ops.loadN 0 rfl dc rfl rfl (T.aggOk rfl) (T.sizeOk rfl) rfl rfl (Ops.call ((impl_descriptorOf J x _ hkr0 (hok x (List.mem_of_getElem? hkx)))) rfl dc call47 rfl ?_)))
   rintro _ J2 l2 ⟨cs, rfl, hcs⟩
   obtain ⟨B1, e1, B2, e2, B3, e3, rfl, hcs⟩ := hcs
   have hr : tDs.rel J2 _ x := ⟨B1, e1, B2, e2, B3, e3, rfl, hcs⟩
   have hG := hG.mono l2
   refine Ops.lit T rfl rfl rfl dc rfl dc dc rfl rfl rfl rfl rfl (fun bq => (Ops.appOne (N := [_]) el29 hG hr rfl dc rfl rfl rfl rfl om om ?_))
   rintro v2 M2 hG2
   refine oP rfl (Ops.nil (Run.dropL (List.sublist_cons_self _ _) (rI ?_)))
   refine rO (fun Z hZ => (fE (Ev.addK (r := ((i + 1 : Nat) : Int)) rfl rfl (by rw [wI (by omega) (by omega)]; omega)) (eE rfl (zN hZ ?_))))
   skip
   refine Run.keep [2, 8, 9, 10] [_, _, _, _] rfl ?_
   exact ih (l.length - (i + 1)) _ _ _ (by omega) ⟨i + 1, v2, M2, rfl, by omega, by rw [List.take_add_one, hkx]; exact hG2, hG2.some (by simp), rfl, rfl, hle.trans l2⟩
  ·rw [List.take_of_length_le (by omega)] at hG
   obtain ⟨a2, n2, c2, rfl⟩ := hv
   refine rS ?_
   refine rO (fun Z hZ => (kF (Ev.lss rfl rfl) (by omega) (zN hZ ?_)))
   repeat (first | refine rS ?_ | refine Run.exit rfl ?_ | refine rF rfl ?_)
   refine rO (fun Z hZ => (eE rfl (eE rfl (zN hZ ?_))))
   skip
   refine Run.keepG (N := []) hG rfl fun J2 l2 hS2 => ?_
   refine Run.fin (Run.ret1 (by rw [hCf]; exact func44) results44 rfl (hR _ _ _ ?_))
   exact ⟨rfl, hS2, _, _, _, rfl, rfl⟩
theorem impl_subjectOf (I : Imm) (c : Value) (l : List Ds) (hS : SbR I c l) (hok : ∀ d ∈ l, okO d) (hl : l.length <= 1) : Pure prog 46 [c] I fun w J => Sl tDs J w l := by
 rcases hS with ⟨rfl, rfl⟩ | ⟨p, r, b, pc, rfl, rfl, hA, hd⟩
 ·exact (impl_subjectOfNil I).mono fun w J _ h => by rw [h]; exact Sl.nil _ _
 ·have hr : r = [] := by
   rw [List.length_cons] at hl
   exact List.eq_nil_of_length_eq_zero (by omega)
  subst hr
  obtain ⟨cd, cu, cm, cp, rfl, k1, k2, k3, k4⟩ := id hd
  refine Spec.enter 10 [(0, _)] func46 rfl ntmps46 (by simp) rfl ?_
  intro C hCf hR hCI
  refine rS ?_
  refine rO (fun Z hZ => (eE rfl (zN hZ ?_)))
  repeat refine rS ?_
  refine rO (fun Z hZ => (eE rfl (fE (Ev.eqlNil T rfl rfl rfl rfl rfl) (zN hZ ?_))))
  repeat (first | refine rS ?_ | refine rK ?_ | refine rF rfl ?_)
  refine Run.region (oP rfl (oP rfl (Ops.loadIN rfl dc rfl hA (T.aggOk rfl) (T.sizeOk rfl) rfl (Ops.call ((impl_descriptorOf I p _ hd (hok p (by simp)))) rfl dc call47 rfl ?_))))
  rintro _ J2 l2 ⟨cs, rfl, hcs⟩
  obtain ⟨B1, e1, B2, e2, B3, e3, rfl, hcs⟩ := hcs
  have hr : tDs.rel J2 _ p := ⟨B1, e1, B2, e2, B3, e3, rfl, hcs⟩
  refine Ops.lit T rfl rfl rfl dc rfl dc dc rfl rfl rfl rfl rfl (fun bq => (oP rfl (Ops.nil (Run.freezeAt 0 rfl rfl fun J3 l3 hJ3 => ?_))))
  skip
  refine Run.fin (Run.ret1 (by rw [hCf]; exact func46) results46 rfl (hR _ _ _ ?_))
  exact ⟨rfl, Sl.ofBlock hJ3 (Cells.one (tDs.mono hr l3)) rfl (Nat.le_refl _)⟩
end Go.V
namespace Go.V
open Go.Proofs.Tryz
open Go.RowKit
set_option maxRecDepth 10000
attribute [local irreducible] Run Ops QD
def okOM (m : Mf) : Prop := (∀ d ∈ m.lays, okO d) /\ (∀ d ∈ m.subj, okO d) /\ m.lays.length <= 100000 /\ m.subj.length <= 1 /\ Asc m.anns /\ m.anns.length <= 1000000
def isMf (J : Imm) (m : Mf) (nn : Bool) (w : Value) : Prop := ∃ (A1 : Option Addr) (n1 c1 : Nat) (A2 : Option Addr) (n2 c2 : Nat) (A3 : Option Addr) (n3 c3 : Nat) (A4 : Option Addr) (n4 c4 : Nat) (A5 : Option Addr) (n5 c5 : Nat) (A6 : Option Addr) (n6 c6 : Nat),
 w = .agg (m.cs (.slice A1 n1 c1) (.slice A2 n2 c2) (.slice A3 n3 c3) (.slice A4 n4 c4) (.slice A5 n5 c5) (.slice A6 n6 c6)).toArray /\ MfL J m (.slice A1 n1 c1) (.slice A2 n2 c2) (.slice A3 n3 c3) (.slice A4 n4 c4) (.slice A5 n5 c5) (.slice A6 n6 c6) /\ A4.isSome = nn
set_option maxHeartbeats 4000000 in
theorem impl_manifestOf (I : Imm) (m : Mf) (nn : Bool) (mc : List Value) (hv : mfV I m nn mc) (hi : m.idx = false) (hok : okOM m) (hc : okO m.cfg) : Pure prog 27 [.agg mc.toArray] I fun w J => isMf J m nn w := by
 obtain ⟨d0, d1, d2, d3, d4, d5, d6, d7, d8, cl, ca, cb, rfl, h1, h2, h3, h4⟩ := hv
 obtain ⟨g1, g2, g3, g4, g5, g6⟩ := hok
 refine Spec.enter 22 [(0, _)] func27 rfl ntmps27 (by simp) rfl ?_
 intro C hCf hR hCI
 refine rS ?_
 refine Run.region (Ops.box rfl dc rfl rfl (fun b1 => (Ops.alloc rfl dc (T.zeroOk rfl) rfl (fun b2 => (Ops.nil (rS (Run.regionAny (Holds I [(b1, blk [.int .i64 m.ver, str m.media, d0, d1, d2, d3, d4, d5, d6, d7, d8, cl, ca, cb, str m.art] 85)]) (bl 20 0) (by kernel_rfl) (by kernel_rfl) (RAny.tk 0 (bl 20 1) rfl (by kernel_rfl) dc (fun W h => h.holds (Le.refl _) (by first | exact mp rfl | exact mq rfl)) (Yld.eval T rfl rfl) (RAny.tk 1 (bl 20 3) rfl (by kernel_rfl) dc (fun W h => h.holds (Le.refl _) (by first | exact mp rfl | exact mq rfl)) (Yld.load 0 T rfl rfl rfl rfl rfl) (RAny.tk 2 (bl 20 7) rfl (by kernel_rfl) dc (fun W h => h.holds (Le.refl _) (by first | exact mp rfl | exact mq rfl)) (Yld.eval T rfl rfl) (RAny.tk 3 (bl 20 15) rfl (by kernel_rfl) dc (fun W h => h.holds (Le.refl _) (by first | exact mp rfl | exact mq rfl)) (Yld.load 0 T rfl rfl rfl rfl rfl) ?_)))))))))))
 refine RAny.tk 4 (bl 20 31) rfl (by kernel_rfl) dc (fun W h => h.holds (Le.refl _) (by first | exact mp rfl | exact mq rfl)) (Yld.eval T rfl rfl) (RAny.tk 5 (bl 20 63) rfl (by kernel_rfl) dc (fun W h => h.holds (Le.refl _) (by first | exact mp rfl | exact mq rfl)) (Yld.loadN 0 T rfl rfl rfl rfl rfl rfl rfl) (RAny.tk 7 (bl 20 191) rfl (by kernel_rfl) dc (fun W h => h.holds (Le.refl _) (by first | exact mp rfl | exact mq rfl)) (Yld.eval T rfl rfl) (RAny.tk 8 (bl 20 447) rfl (by kernel_rfl) dc (fun W h => h.holds (Le.refl _) (by first | exact mp rfl | exact mq rfl)) (Yld.load 0 T rfl rfl rfl rfl rfl) (RAny.tk 10 (bl 20 1471) rfl (by kernel_rfl) dc (fun W h => h.holds (Le.refl _) (by first | exact mp rfl | exact mq rfl)) (Yld.eval T rfl rfl) ?_))))
 refine RAny.tk 11 (bl 20 3519) rfl (by kernel_rfl) dc (fun W h => h.holds (Le.refl _) (by first | exact mp rfl | exact mq rfl)) (Yld.load 0 T rfl rfl rfl rfl rfl) (RAny.tk 13 (bl 20 11711) rfl (by kernel_rfl) dc (fun W h => h.holds (Le.refl _) (by first | exact mp rfl | exact mq rfl)) (Yld.eval T rfl rfl) (RAny.tk 14 (bl 20 28095) rfl (by kernel_rfl) dc (fun W h => h.holds (Le.refl _) (by first | exact mp rfl | exact mq rfl)) (Yld.load 0 T rfl rfl rfl rfl rfl) (RAny.tk 16 (bl 20 93631) rfl (by kernel_rfl) dc (fun W h => h.holds (Le.refl _) (by first | exact mp rfl | exact mq rfl)) (Yld.eval T rfl rfl) (RAny.tk 17 (bl 20 224703) rfl (by kernel_rfl) dc (fun W h => h.holds (Le.refl _) (by first | exact mp rfl | exact mq rfl)) (Yld.load 0 T rfl rfl rfl rfl rfl) ?_))))
 refine RAny.on 6 (bl 20 224767) rfl (by kernel_rfl) rfl dc (Eff.call (impl_descriptorOf I m.cfg _ h1 hc) call47 rfl fun y1 J1 l1 hy1 => ⟨fun W h => h.holds l1 (fun _ h => .tail _ h), ?_⟩)
 obtain ⟨cs1, rfl, hcs1⟩ := hy1
 obtain ⟨B1, e1, B2, e2, B3, e3, rfl, hD⟩ := hcs1
 refine RAny.on 9 (bl 20 225279) rfl (by kernel_rfl) rfl dc (Eff.call (impl_descriptorsOf J1 nn cl m.lays (h2.mono l1) g1 g3) call44 rfl fun y2 J2 l2 hy2 => ⟨fun W h => h.holds (l1.trans l2) (fun _ h => .tail _ h), ?_⟩)
 obtain ⟨hS2, A4, n4, c4, rfl, hA4⟩ := hy2
 refine RAny.on 12 (bl 20 229375) rfl (by kernel_rfl) rfl dc (Eff.call (impl_pairsOf J2 ca m.anns (h3.mono (l1.trans l2)) g5 g6) call45 rfl fun y3 J3 l3 hy3 => ⟨fun W h => h.holds ((l1.trans l2).trans l3) (fun _ h => .tail _ h), (RAny.on 15 (bl 20 262143) rfl (by kernel_rfl) rfl dc (Eff.call (impl_subjectOf J3 cb m.subj (h4.mono ((l1.trans l2).trans l3)) g2 g4) call46 rfl fun y4 J4 l4 hy4 => ⟨fun W h => h.holds (((l1.trans l2).trans l3).trans l4) (fun _ h => .tail _ h), ?_⟩))⟩)
 obtain ⟨A5, c5, rfl⟩ := hy3.isSl
 obtain ⟨A6, c6, rfl⟩ := hy4.isSl
 skip
 refine RAny.tk 18 (bl 20 524287) rfl (by kernel_rfl) dc (fun W h => h.holds (((l1.trans l2).trans l3).trans l4) (by first | exact mp rfl | exact mq rfl)) (Yld.buildL (cs := [.bool false, .int .i64 m.ver, str m.media, str m.cfg.media, .int .i64 m.cfg.size, str m.cfg.dig.1, str m.cfg.dig.2, str m.cfg.data, .slice B1 m.cfg.urls.length e1, .slice B2 m.cfg.anns.length e2, .slice B3 m.cfg.plats.length e3, str m.cfg.art, .slice A4 n4 c4, .slice A5 m.anns.length c5, .slice A6 m.subj.length c6, str m.art]) bd31 rfl rfl (by kernel_rfl)) (RAny.os 19 (bl 20 1048575) rfl (by kernel_rfl) rfl (Eff.store 0 rfl rfl rfl rfl (T.sizeOk rfl) rfl (lb rfl) rfl rfl ⟨fun W h => h.holds (((l1.trans l2).trans l3).trans l4) (fun _ h => .tail _ h), (RAny.done _ (by kernel_rfl) ?_)⟩))
 skip
 refine Run.retC T 0 (by rw [hCf]; exact func27) results27 rfl rfl rfl rfl rfl rfl (hR _ _ _ ?_)
 refine ⟨rfl, B1, m.cfg.urls.length, e1, B2, m.cfg.anns.length, e2, B3, m.cfg.plats.length, e3, A4, n4, c4, A5, m.anns.length, c5, A6, m.subj.length, c6, ?_, ⟨?_, hS2.mono (l3.trans l4), hy3.mono l4, hy4⟩, hA4⟩
 ·unfold Mf.cs
  rw [hi]; rfl
 ·exact DsL.mono hD ((l2.trans l3).trans l4)
set_option maxHeartbeats 4000000 in
theorem impl_indexOf (I : Imm) (m : Mf) (nn : Bool) (mc : List Value) (hv : ixV I m nn mc) (hi : m.idx = true) (hok : okOM m) (hc : m.cfg = ⟨[], 0, ([], []), [], [], [], [], []⟩) : Pure prog 25 [.agg mc.toArray] I fun w J => isMf J m nn w := by
 obtain ⟨cl, ca, cb, rfl, h2, h3, h4⟩ := hv
 obtain ⟨g1, g2, g3, g4, g5, g6⟩ := hok
 refine Spec.enter 19 [(0, _)] func25 rfl ntmps25 (by simp) rfl ?_
 intro C hCf hR hCI
 refine rS ?_
 refine Run.region (Ops.box rfl dc rfl rfl (fun b1 => (Ops.alloc rfl dc (T.zeroOk rfl) rfl (fun b2 => (Ops.nil (rS ?_))))))
 refine Run.regionAny (Holds I [(b1, blk [.int .i64 m.ver, str m.media, cl, ca, cb, str m.art] 75)]) (bl 17 0) (by kernel_rfl) (by kernel_rfl) (RAny.tk 0 (bl 17 1) rfl (by kernel_rfl) dc (fun W h => h.holds (Le.refl _) (by first | exact mp rfl | exact mq rfl)) (Yld.eval T rfl rfl) (RAny.tk 1 (bl 17 3) rfl (by kernel_rfl) dc (fun W h => h.holds (Le.refl _) (by first | exact mp rfl | exact mq rfl)) (Yld.load 0 T rfl rfl rfl rfl rfl) (RAny.tk 2 (bl 17 7) rfl (by kernel_rfl) dc (fun W h => h.holds (Le.refl _) (by first | exact mp rfl | exact mq rfl)) (Yld.eval T rfl rfl) (RAny.tk 3 (bl 17 15) rfl (by kernel_rfl) dc (fun W h => h.holds (Le.refl _) (by first | exact mp rfl | exact mq rfl)) (Yld.load 0 T rfl rfl rfl rfl rfl) (RAny.tk 4 (bl 17 31) rfl (by kernel_rfl) dc (fun W h => h.holds (Le.refl _) (by first | exact mp rfl | exact mq rfl)) (Yld.eval T rfl rfl) ?_)))))
 refine RAny.tk 5 (bl 17 63) rfl (by kernel_rfl) dc (fun W h => h.holds (Le.refl _) (by first | exact mp rfl | exact mq rfl)) (Yld.load 0 T rfl rfl rfl rfl rfl) (RAny.tk 7 (bl 17 191) rfl (by kernel_rfl) dc (fun W h => h.holds (Le.refl _) (by first | exact mp rfl | exact mq rfl)) (Yld.eval T rfl rfl) (RAny.tk 8 (bl 17 447) rfl (by kernel_rfl) dc (fun W h => h.holds (Le.refl _) (by first | exact mp rfl | exact mq rfl)) (Yld.load 0 T rfl rfl rfl rfl rfl) (RAny.tk 10 (bl 17 1471) rfl (by kernel_rfl) dc (fun W h => h.holds (Le.refl _) (by first | exact mp rfl | exact mq rfl)) (Yld.eval T rfl rfl) (RAny.tk 11 (bl 17 3519) rfl (by kernel_rfl) dc (fun W h => h.holds (Le.refl _) (by first | exact mp rfl | exact mq rfl)) (Yld.load 0 T rfl rfl rfl rfl rfl) (RAny.tk 13 (bl 17 11711) rfl (by kernel_rfl) dc (fun W h => h.holds (Le.refl _) (by first | exact mp rfl | exact mq rfl)) (Yld.eval T rfl rfl) ?_)))))
 refine RAny.tk 14 (bl 17 28095) rfl (by kernel_rfl) dc (fun W h => h.holds (Le.refl _) (by first | exact mp rfl | exact mq rfl)) (Yld.load 0 T rfl rfl rfl rfl rfl) (RAny.on 6 (bl 17 28159) rfl (by kernel_rfl) rfl dc (Eff.call (impl_descriptorsOf I nn cl m.lays h2 g1 g3) call44 rfl fun y2 J2 l2 hy2 => ⟨fun W h => h.holds l2 (fun _ h => .tail _ h), ?_⟩))
 obtain ⟨hS2, A4, n4, c4, rfl, hA4⟩ := hy2
 refine RAny.on 9 (bl 17 28671) rfl (by kernel_rfl) rfl dc (Eff.call (impl_pairsOf J2 ca m.anns (h3.mono l2) g5 g6) call45 rfl fun y3 J3 l3 hy3 => ⟨fun W h => h.holds (l2.trans l3) (fun _ h => .tail _ h), (RAny.on 12 (bl 17 32767) rfl (by kernel_rfl) rfl dc (Eff.call (impl_subjectOf J3 cb m.subj (h4.mono (l2.trans l3)) g2 g4) call46 rfl fun y4 J4 l4 hy4 => ⟨fun W h => h.holds ((l2.trans l3).trans l4) (fun _ h => .tail _ h), ?_⟩))⟩)
 obtain ⟨A5, c5, rfl⟩ := hy3.isSl
 obtain ⟨A6, c6, rfl⟩ := hy4.isSl
 skip
 refine RAny.tk 15 (bl 17 65535) rfl (by kernel_rfl) dc (fun W h => h.holds ((l2.trans l3).trans l4) (by first | exact mp rfl | exact mq rfl)) (Yld.buildL (cs := [.bool true, .int .i64 m.ver, str m.media, str [], .int .i64 0, str [], str [], str [], .slice none 0 0, .slice none 0 0, .slice none 0 0, str [], .slice A4 n4 c4, .slice A5 m.anns.length c5, .slice A6 m.subj.length c6, str m.art]) bd31 rfl rfl (by kernel_rfl)) (RAny.os 16 (bl 17 131071) rfl (by kernel_rfl) rfl (Eff.store 0 rfl rfl rfl rfl (T.sizeOk rfl) rfl (lb rfl) rfl rfl ⟨fun W h => h.holds ((l2.trans l3).trans l4) (fun _ h => .tail _ h), (RAny.done _ (by kernel_rfl) ?_)⟩))
 skip
 refine Run.retC T 0 (by rw [hCf]; exact func25) results25 rfl rfl rfl rfl rfl rfl (hR _ _ _ ?_)
 refine ⟨rfl, none, 0, 0, none, 0, 0, none, 0, 0, A4, n4, c4, A5, m.anns.length, c5, A6, m.subj.length, c6, ?_, ⟨?_, hS2.mono (l3.trans l4), hy3.mono l4, hy4⟩, hA4⟩
 ·unfold Mf.cs
  rw [hi, hc]; rfl
 ·rw [hc]
  exact ⟨Sl.nil _ _, Sl.nil _ _, Sl.nil _ _⟩
end Go.V
