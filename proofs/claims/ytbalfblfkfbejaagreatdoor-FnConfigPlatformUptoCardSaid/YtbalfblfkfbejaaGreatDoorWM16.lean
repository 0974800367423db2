import Derived.Test.YtbalfblfkfbejaaGreatDoorWM5
import Derived.Test.YtbalfblfkfbejaaGreatDoorWM15
import Derived.Test.YtbalfblfkfbejaaGreatDoorWM2
import Derived.Test.YtbalfblfkfbejaaGreatDoorRows
import Derived.Test.YtbalfblfkfbejaaGreatDoorWM8
import Derived.Test.YtbalfblfkfbejaaGreatDoorWM4
import Derived.Lib.LaidU8T
import Derived.Test.YtbalfblfkfbejaaGreatDoorWM14
namespace Go.V
open Go.Proofs.Tryz
open Go.RowKit
set_option linter.unusedVariables false
set_option linter.unusedSimpArgs false
set_option maxRecDepth 10000
attribute [local irreducible] Run Ops
def hTexts (l : List Hi) : List Bs := l.flatMap fun h => [h.author, h.by_, h.comment]
def eTexts (l : List He) : List Bs := l.flatMap fun h => h.test
def St.lists (s : St) : List Txts := [s.cmd, s.entry, s.env_, s.onb, s.shell, s.vol, s.exp_, [s.dom, s.host, s.img, s.user, s.dir, s.mac, s.stop]]
def cTexts (c : Cf) : List Bs := [c.arch, c.author, c.cont, c.dver, c.os, c.osv, c.var, c.rty] ++ c.feat ++ hTexts c.hist ++ c.st.lists.flatten ++ aTexts c.st.lab ++ eTexts c.st.hc
def timeGood (t : Int) : Prop := -62135596800 ≤ t ∧ t < 253402300800
def goodCf (c : Cf) : Prop := (∀ t ∈ c.created :: c.hist.map Hi.created, timeGood t) ∧ (∀ d ∈ c.diffs, digGood (hTell d) = true) ∧ c.st.hc.length ≤ 1 ∧ c.hist.length ≤ 8 ∧ c.diffs.length ≤ 8 ∧ Asc c.st.lab ∧ AscT c.st.vol ∧ AscT c.st.exp_ ∧ (cTexts c).length ≤ 60 ∧ ∀ s ∈ cTexts c, goodS s
theorem hTexts_len (l : List Hi) : (hTexts l).length = 3 * l.length := by
  unfold hTexts
  induction l with
  | nil => rfl
  | cons x l ih => rw [List.flatMap_cons, List.length_append, ih]; simp; omega
theorem eTexts_take (l : List He) (i : Nat) : (eTexts (l.take i)).length ≤ (eTexts l).length := by
  have h : eTexts l = eTexts (l.take i) ++ eTexts (l.drop i) := by
    unfold eTexts
    rw [← List.flatMap_append, List.take_append_drop]
  rw [h, List.length_append]
  omega
theorem flat_len (n : Nat) : ∀ (ls : List Txts), (∀ x ∈ ls, x.length ≤ n) → ls.flatten.length ≤ ls.length * n
  | [], _ => by simp
  | x :: r, h => by
    have h1 := flat_len n r fun y hy => h y (List.mem_cons_of_mem _ hy)
    have h2 := h x List.mem_cons_self
    rw [List.flatten_cons, List.length_append, List.length_cons, Nat.succ_mul]
    omega
theorem hTexts_fit {l : List Hi} (h : ∀ x ∈ l, fitHi x) : ∀ s ∈ hTexts l, s.length ≤ 2147483647 := by
  intro s hs
  obtain ⟨x, hx, hm⟩ := List.mem_flatMap.1 hs
  obtain ⟨h1, h2, h3⟩ := h x hx
  simp only [List.mem_cons, List.not_mem_nil, or_false] at hm
  rcases hm with rfl | rfl | rfl
  · exact h1
  · exact h2
  · exact h3
theorem eTexts_fit {l : List He} (h : ∀ x ∈ l, fitHe x) : ∀ s ∈ eTexts l, s.length ≤ 2147483647 := by
  intro s hs
  obtain ⟨x, hx, hm⟩ := List.mem_flatMap.1 hs
  exact (h x hx).2 s hm
def tTx : Ty Txts := ⟨1, fun I cs xs => ∃ v, cs = [v] ∧ Sl tStr I v xs, fun h => by obtain ⟨v, h, _⟩ := h; subst h; rfl, fun h hle => by obtain ⟨v, h, h1⟩ := h; exact ⟨v, h, h1.mono hle⟩⟩
theorem Cells.sl {J : Imm} {v : Value} {x : Txts} {vs : List Value} {xs : List Txts} (h : Sl tStr J v x) (hC : Cells tTx J vs xs) : Cells tTx J (v :: vs) (x :: xs) := (Cells.one (t := tTx) ⟨v, rfl, h⟩).append hC
theorem lists_fit {s : St} (h : fitSt s) : ∀ x ∈ s.lists, fitL x := by
  obtain ⟨⟨h1, h2, h3, h4, h5, h6, h7⟩, ⟨g1, g2, g3, g4, g5, g6, g7⟩, _⟩ := h
  intro x hx
  simp only [St.lists, List.mem_cons, List.not_mem_nil, or_false] at hx
  rcases hx with rfl | rfl | rfl | rfl | rfl | rfl | rfl | rfl
  · exact h1
  · exact h2
  · exact h3
  · exact h4
  · exact h5
  · exact h6
  · exact h7
  · refine ⟨by simp, fun y hy => ?_⟩
    simp only [List.mem_cons, List.not_mem_nil, or_false] at hy
    rcases hy with rfl | rfl | rfl | rfl | rfl | rfl | rfl <;> assumption
theorem cTexts_fit {c : Cf} (h : fitCf c) : ∀ s ∈ cTexts c, s.length ≤ 2147483647 := by
  obtain ⟨⟨g1, g2, g3, g4, g5, g6, g7, g8⟩, ⟨_, f1⟩, _, f3, f4⟩ := h
  intro s hs
  have hl := lists_fit f3
  obtain ⟨_, _, ⟨_, f5⟩, _, f6⟩ := f3
  unfold cTexts at hs
  rcases List.mem_append.1 hs with hs | hs
  · rcases List.mem_append.1 hs with hs | hs
    · rcases List.mem_append.1 hs with hs | hs
      · rcases List.mem_append.1 hs with hs | hs
        · rcases List.mem_append.1 hs with hs | hs
          · simp only [List.mem_cons, List.not_mem_nil, or_false] at hs
            rcases hs with rfl | rfl | rfl | rfl | rfl | rfl | rfl | rfl <;> assumption
          · exact f4.2 s hs
        · exact hTexts_fit f1 s hs
      · obtain ⟨x, hx, hm⟩ := List.mem_flatten.1 hs
        exact (hl x hx).2 s hm
    · exact aTexts_fit f5 s hs
  · exact eTexts_fit f6 s hs
theorem gperm {x y z : Nat × Obj} (W0 M : Own) : (x :: y :: z :: (W0 ++ M)).Perm (x :: (([y, z] ++ M) ++ W0)) := .cons _ (.cons _ (.cons _ List.perm_append_comm))
theorem gperm2 {y z : Nat × Obj} (W0 M : Own) : (([y, z] ++ M) ++ W0).Perm (y :: z :: (W0 ++ M)) := .cons _ (.cons _ List.perm_append_comm)
set_option maxHeartbeats 8000000 in
theorem laws_configGood (I : Imm) (hU : UT I) (c : Cf) (v : CV) (hL : CfL I c v) (hfit : fitCf c) (hsum : (eTexts c.st.hc).length ≤ 1048576) : Pure prog 12 [.agg (c.cs v).toArray] I fun w J => ∃ r, w = .bool r ∧ (r = true → goodCf c) := by
  have hfit0 := hfit
  have hct := cTexts_fit hfit
  obtain ⟨h1, h2, h3, h4⟩ := hL
  obtain ⟨k1, k2, k3, k4, k5, k6, k7, k8, k9⟩ := h3
  obtain ⟨arch, author, cont, dver, os, osv, var, created, hist, rty, diffs, st, feat⟩ := c
  have hll := fun x hx => (lists_fit hfit.2.2.2.1 x hx).1
  obtain ⟨q1, q2, q3, q4, q5, q6, q7, q8, cmd, entry, env_, onb, shell, vol, exp_, dom, host, img, user, dir, mac, stop, lab, hc⟩ := st
  obtain ⟨⟨A1, n1, z1⟩, ⟨A2, n2, z2⟩, ⟨cmdv, entryv, envv, onbv, shellv, volv, expv, ⟨A3, n3, z3⟩, ⟨A4, n4, z4⟩⟩, fv⟩ := v
  obtain ⟨_, ⟨f1, f1'⟩, ⟨f2, f2'⟩, ⟨⟨_, _, _, _, _, ⟨u6, _⟩, ⟨u7, _⟩⟩, _, ⟨x1, x1'⟩, x2, x2'⟩, ⟨f4, _⟩⟩ := hfit
  simp only at h1 h2 h4 k1 k2 k3 k4 k5 k6 k7 k8 k9 f1 f2 u6 u7 x1 x2 f4 hsum
  replace h1 : Sl tHi I (.slice A1 n1 z1) hist := h1
  replace h2 : Sl tK2 I (.slice A2 n2 z2) diffs := h2
  replace k8 : Sl tK2 I (.slice A3 n3 z3) lab := k8
  replace k9 : Sl tHe I (.slice A4 n4 z4) hc := k9
  obtain ⟨_, _, e1⟩ := h1.isSl
  cases e1
  obtain ⟨_, _, e2⟩ := h2.isSl
  cases e2
  obtain ⟨_, _, e3⟩ := k8.isSl
  cases e3
  obtain ⟨_, _, e4⟩ := k9.isSl
  cases e4
  refine Spec.enter 191 [(0, _)] func12 rfl ntmps12 (by simp) rfl ?_
  intro C hCf hR hCI
  repeat (first | refine Run.seq ?_ | refine Run.region ?_)
  refine Ops.box rfl (by decide) rfl rfl (fun b1 => ?_)
  repeat (first | refine Run.seq ?_ | refine Run.region ?_ | refine Ops.nil ?_ | refine Ops.pure T rfl (by decide) rfl ?_ | refine Ops.load 0 rfl (by decide) rfl rfl (T.aggOk rfl) rfl ?_)
  refine Ops.lit T rfl rfl rfl (by decide) rfl (by decide) (by decide) rfl rfl rfl rfl rfl (fun bq => ?_)
  have hG0 := Gr.lit (t := tStr) (I := I) (e := 9) (b := bq) (Cells.strs [arch, author, cont, dver, os, osv, var, rty])
  repeat (first | refine Run.seq ?_ | refine Run.region ?_ | refine Ops.nil ?_ | refine Ops.pure T rfl (by decide) rfl ?_ | refine Ops.load 1 rfl (by decide) rfl rfl (T.aggOk rfl) rfl ?_)
  refine Ops.perm (List.Perm.swap _ _ _) ?_
  refine Ops.appSl (N := [_]) el24 hG0 h4 (fun _ h => h.one_str) rfl (by decide) rfl rfl rfl (by simp; omega) (by simp; omega) fun v1 M1 hG1 => ?_
  repeat (first | refine Run.seq ?_ | refine Run.region ?_ | refine Ops.nil ?_ | refine Ops.pure T rfl (by decide) rfl ?_ | refine Ops.load 0 rfl (by decide) rfl rfl (T.aggOk rfl) rfl ?_)
  refine Ops.lit T rfl rfl rfl (by decide) rfl (by decide) (by decide) rfl rfl rfl rfl rfl (fun bt => ?_)
  have hT1 := Gr.lit (t := tInt .i64) (I := I) (e := 2) (b := bt) (ys := [created]) (Cells.one rfl)
  repeat (first | refine Run.seq ?_ | refine Run.region ?_ | refine Ops.nil ?_ | refine Run.block ?_ | refine Ops.pure T rfl (by decide) rfl ?_ | refine Ops.load 1 rfl (by decide) rfl rfl (T.aggOk rfl) rfl ?_)
  have hbl : ([arch, author, cont, dver, os, osv, var, rty] ++ feat).length = feat.length + 8 := by simp
  generalize hbs : [arch, author, cont, dver, os, osv, var, rty] ++ feat = bs at *
  refine Run.perm (L' := (b1, _) :: ([_] ++ M1)) (List.Perm.swap _ _ _) ?_
  refine Run.keep [1, 2, 3, 4, 43, 44, 45] [_, _, _, _, _, _, _] rfl ?_
  refine Run.rounds (fun m env L J => ∃ (i : Nat) (vl vt : Value) (M W0 : Own), m = hist.length - i ∧ i ≤ hist.length ∧ Gr tStr J 9 vl (bs ++ hTexts (hist.take i)) M ∧ Gr (tInt .i64) J 2 vt (created :: (hist.take i).map Hi.created) W0 ∧ env = [(1, .pointer (some ⟨b1, 0, none⟩)), (2, .bool false), (3, vl), (4, vt), (43, .slice A1 hist.length z1), (44, .int .i64 hist.length), (45, .int .i64 i)] ∧ L = (b1, blk ((Cf.mk arch author cont dver os osv var created hist rty diffs (St.mk q1 q2 q3 q4 q5 q6 q7 q8 cmd entry env_ onb shell vol exp_ dom host img user dir mac stop lab hc) feat).cs ⟨⟨A1, hist.length, z1⟩, ⟨A2, diffs.length, z2⟩, ⟨cmdv, entryv, envv, onbv, shellv, volv, expv, ⟨A3, lab.length, z3⟩, ⟨A4, hc.length, z4⟩⟩, fv⟩) 30) :: (W0 ++ M) ∧ I = J) hist.length ⟨0, _, _, M1, [_], by omega, by omega, by simpa [hTexts] using hG1, hT1, rfl, rfl, rfl⟩ ?_
  clear hG0 hG1 hT1
  rintro m env L J ⟨i, vl, vt, M, W0, rfl, hi, hG, hT, rfl, rfl, rfl⟩ ih
  have hgl : (bs ++ hTexts (hist.take i)).length = feat.length + 8 + 3 * i := by rw [List.length_append, hTexts_len, List.length_take, hbl]; omega
  have htl : (created :: (hist.take i).map Hi.created).length = i + 1 := by rw [List.length_cons, List.length_map, List.length_take]; omega
  repeat (first | refine Run.seq ?_ | refine Run.region ?_ | refine Ops.nil ?_ | refine Ops.lss rfl (by decide) rfl rfl ?_)
  refine Run.cond rfl rfl (fun h => ?_) (fun h => ?_)
  all_goals (try rw [h])
  all_goals (try simp only [decide_eq_true_eq, decide_eq_false_iff_not, Bool.not_eq_true', Bool.not_eq_false', Bool.and_eq_true, Bool.or_eq_true, Bool.and_eq_false_imp, Bool.or_eq_false_iff] at h)
  · skip
    repeat (first | refine Run.seq ?_ | refine Run.region ?_ | refine Run.skip ?_ | refine Run.block ?_)
    refine Ops.indexSl h1 rfl (by decide) rfl rfl (T.undOk rfl) (T.sizeOk rfl) (by omega) (by omega) ?_
    rintro b_ off_ x cs_ hx hr_ hA_
    obtain rfl : cs_ = x.cs := hr_
    rw [Int.toNat_natCast] at hx
    refine Ops.loadIN rfl (by decide) rfl (hA_) (T.aggOk rfl) (T.sizeOk rfl) rfl ?_
    refine Ops.alloc rfl (by decide) (T.zeroOk rfl) rfl (fun b6 => ?_)
    repeat (first | refine Run.seq ?_ | refine Run.region ?_ | refine Ops.nil ?_ | refine Ops.pure T rfl (by decide) rfl ?_ | refine Ops.load 0 rfl (by decide) rfl rfl (T.aggOk rfl) rfl ?_ | refine Ops.store 0 rfl rfl rfl rfl rfl (T.sizeOk rfl) rfl (Nat.le_of_ble_eq_true rfl) rfl rfl ?_)
    refine Ops.lit T rfl rfl rfl (by decide) rfl (by decide) (by decide) rfl rfl rfl rfl rfl (fun bq2 => ?_)
    refine Ops.appMany (t := tStr) (M := M) (N := [_, _] ++ W0) (q := 3) (ys := [x.author, x.by_, x.comment]) el24 hG (Cells.strs _) rfl rfl (by decide) rfl rfl rfl rfl (by omega) (by omega) fun v' M' hG' => ?_
    repeat (first | refine Run.region ?_ | refine Ops.nil ?_ | refine Ops.pure T rfl (by decide) rfl ?_ | refine Ops.load 0 rfl (by decide) rfl rfl (T.aggOk rfl) rfl ?_)
    refine Ops.lit T rfl rfl rfl (by decide) rfl (by decide) (by decide) rfl rfl rfl rfl rfl (fun bt2 => ?_)
    refine Ops.perm (gperm W0 M') ?_
    refine Ops.appOne (t := tInt .i64) (N := [_, _] ++ M') el74 hT (show (tInt .i64).rel _ _ x.created from rfl) rfl (by decide) rfl rfl rfl rfl (by omega) (by omega) fun v'' T' hT' => ?_
    refine Ops.perm (gperm2 T' M') ?_
    repeat (first | refine Run.region ?_ | refine Ops.nil ?_ | refine Run.inBlock ?_ | refine Ops.add rfl (by decide) rfl rfl (wI (by first | omega | (simp only [List.length_cons, List.length_nil] ; omega) | (simp; omega)) (by first | omega | (simp only [List.length_cons, List.length_nil] ; omega) | (simp; omega))) ?_ | refine Ops.pure T rfl (by decide) rfl ?_)
    refine Run.dropL (List.sublist_cons_self _ _) ?_
    refine Run.keep [1, 2, 3, 4, 43, 44, 45] [_, _, _, _, _, _, _] rfl ?_
    refine ih (hist.length - (i + 1)) _ _ _ (by omega) ⟨i + 1, v', v'', M', T', rfl, by omega, ?_, ?_, rfl, rfl, rfl⟩
    · rw [List.take_add_one, hx]
      unfold hTexts at hG' ⊢
      rw [List.flatMap_append, ← List.append_assoc]
      simpa using hG'
    · rw [List.take_add_one, hx]
      simpa using hT'
  have hih : i = hist.length := by omega
  subst hih
  clear ih
  rw [List.take_length] at hG hT hgl htl
  obtain ⟨Ax, cx, rfl⟩ := hT.isSl
  refine Run.keepGr hT (N := (b1, _) :: M) List.perm_middle.symm fun J5 l5 hTS => ?_
  replace hG := hG.mono l5
  clear hT
  generalize hts : created :: hist.map Hi.created = ts at *
  repeat (first | refine Run.seq ?_ | refine Run.region ?_ | refine Ops.nil ?_ | refine Run.block ?_ | refine Run.exit rfl ?_ | refine Ops.pure T rfl (by decide) rfl ?_)
  refine Run.keep [1, 2, 3, 64, 65, 66] [_, _, _, _, _, _] rfl ?_
  refine Run.rounds (fun m env L J => ∃ (i : Nat), m = ts.length - i ∧ i ≤ ts.length ∧ (∀ t ∈ ts.take i, timeGood t) ∧ env = [(1, .pointer (some ⟨b1, 0, none⟩)), (2, .bool false), (3, vl), (64, .slice Ax ts.length cx), (65, .int .i64 ts.length), (66, .int .i64 i)] ∧ L = (b1, blk ((Cf.mk arch author cont dver os osv var created hist rty diffs (St.mk q1 q2 q3 q4 q5 q6 q7 q8 cmd entry env_ onb shell vol exp_ dom host img user dir mac stop lab hc) feat).cs ⟨⟨A1, hist.length, z1⟩, ⟨A2, diffs.length, z2⟩, ⟨cmdv, entryv, envv, onbv, shellv, volv, expv, ⟨A3, lab.length, z3⟩, ⟨A4, hc.length, z4⟩⟩, fv⟩) 30) :: M ∧ J5 = J) ts.length ⟨0, by omega, by omega, by simp, rfl, rfl, rfl⟩ ?_
  rintro m env L J ⟨i, rfl, hi, hall, rfl, rfl, rfl⟩ ih
  repeat (first | refine Run.seq ?_ | refine Run.region ?_ | refine Ops.nil ?_ | refine Ops.lss rfl (by decide) rfl rfl ?_)
  refine Run.cond rfl rfl (fun h => ?_) (fun h => ?_)
  all_goals (try rw [h])
  all_goals (try simp only [decide_eq_true_eq, decide_eq_false_iff_not, Bool.not_eq_true', Bool.not_eq_false', Bool.and_eq_true, Bool.or_eq_true, Bool.and_eq_false_imp, Bool.or_eq_false_iff] at h)
  · skip
    repeat (first | refine Run.seq ?_ | refine Run.region ?_ | refine Run.skip ?_ | refine Run.block ?_)
    refine Ops.indexSl hTS rfl (by decide) rfl rfl (T.undOk rfl) (T.sizeOk rfl) (by first | omega | (simp only [List.length_cons, List.length_nil] ; omega) | (simp; omega)) (by first | omega | (simp only [List.length_cons, List.length_nil] ; omega) | (simp; omega)) ?_
    rintro b_ off_ x cs_ hx hr_ hA_
    obtain rfl : cs_ = [_] := hr_
    refine Ops.loadI rfl (by decide) rfl hA_ (T.aggOk rfl) ?_
    rw [Int.toNat_natCast] at hx
    repeat (first | refine Run.seq ?_ | refine Run.region ?_ | refine Ops.nil ?_ | refine Ops.lss rfl (by decide) rfl rfl ?_ | refine Ops.pure T rfl (by decide) rfl ?_)
    cases hb1 : decide (x < -62135596800) with
    | true =>
      repeat (first | refine Run.seq ?_ | refine Run.region ?_ | refine Ops.nil ?_ | refine Run.cond_t rfl ?_ | refine Ops.not rfl (by decide) ?_ | refine Ops.pure T rfl (by decide) rfl ?_)
      refine Run.fin (Run.ret1 (by rw [hCf]; exact func12) results12 rfl (hR _ _ _ ?_))
      exact ⟨rfl, false, rfl, by simp⟩
    | false =>
    repeat (first | refine Ops.nil ?_ | refine Ops.geq rfl (by decide) rfl rfl ?_ | refine Ops.pure T rfl (by decide) rfl ?_)
    cases hb2 : decide (253402300800 ≤ x) with
    | true =>
      repeat (first | refine Run.seq ?_ | refine Run.region ?_ | refine Ops.nil ?_ | refine Run.cond_t rfl ?_ | refine Ops.pure T rfl (by decide) rfl ?_)
      refine Run.fin (Run.ret1 (by rw [hCf]; exact func12) results12 rfl (hR _ _ _ ?_))
      exact ⟨rfl, false, rfl, by simp⟩
    | false =>
    repeat (first | refine Run.region ?_ | refine Ops.nil ?_ | refine Run.skip ?_ | refine Run.inBlock ?_ | refine Run.cond_f rfl ?_ | refine Ops.add rfl (by decide) rfl rfl (wI (by first | omega | (simp only [List.length_cons, List.length_nil] ; omega) | (simp; omega)) (by first | omega | (simp only [List.length_cons, List.length_nil] ; omega) | (simp; omega))) ?_ | refine Ops.pure T rfl (by decide) rfl ?_)
    refine Run.keep [1, 2, 3, 64, 65, 66] [_, _, _, _, _, _] rfl ?_
    refine ih (ts.length - (i + 1)) _ _ _ (by omega) ⟨i + 1, rfl, by omega, ?_, rfl, rfl, rfl⟩
    intro t ht
    rw [List.take_add_one, hx] at ht
    rcases List.mem_append.1 ht with ht | ht
    · exact hall t ht
    · simp at ht
      subst ht
      have := of_decide_eq_false hb1
      have := of_decide_eq_false hb2
      exact ⟨by omega, by omega⟩
  have hih : i = ts.length := by omega
  subst hih
  clear ih
  rw [List.take_length] at hall
  repeat (first | refine Run.seq ?_ | refine Run.region ?_ | refine Ops.nil ?_ | refine Run.block ?_ | refine Run.exit rfl ?_ | refine Ops.pure T rfl (by decide) rfl ?_ | refine Ops.load 0 rfl (by decide) rfl rfl (T.aggOk rfl) rfl ?_)
  refine Run.keep [1, 2, 3, 78, 79, 80] [_, _, _, _, _, _] rfl ?_
  refine Run.rounds (fun m env L J => ∃ (i : Nat), m = diffs.length - i ∧ i ≤ diffs.length ∧ (∀ d ∈ diffs.take i, digGood (hTell d) = true) ∧ env = [(1, .pointer (some ⟨b1, 0, none⟩)), (2, .bool false), (3, vl), (78, .slice A2 diffs.length z2), (79, .int .i64 diffs.length), (80, .int .i64 i)] ∧ L = (b1, blk ((Cf.mk arch author cont dver os osv var created hist rty diffs (St.mk q1 q2 q3 q4 q5 q6 q7 q8 cmd entry env_ onb shell vol exp_ dom host img user dir mac stop lab hc) feat).cs ⟨⟨A1, hist.length, z1⟩, ⟨A2, diffs.length, z2⟩, ⟨cmdv, entryv, envv, onbv, shellv, volv, expv, ⟨A3, lab.length, z3⟩, ⟨A4, hc.length, z4⟩⟩, fv⟩) 30) :: M ∧ Le J5 J) diffs.length ⟨0, by omega, by omega, by simp, rfl, rfl, Le.refl _⟩ ?_
  rintro m env L J6 ⟨i, rfl, hi, hdg, rfl, rfl, l6⟩ ih
  repeat (first | refine Run.seq ?_ | refine Run.region ?_ | refine Ops.nil ?_ | refine Ops.lss rfl (by decide) rfl rfl ?_)
  refine Run.cond rfl rfl (fun h => ?_) (fun h => ?_)
  all_goals (try rw [h])
  all_goals (try simp only [decide_eq_true_eq, decide_eq_false_iff_not, Bool.not_eq_true', Bool.not_eq_false', Bool.and_eq_true, Bool.or_eq_true, Bool.and_eq_false_imp, Bool.or_eq_false_iff] at h)
  · skip
    repeat (first | refine Run.seq ?_ | refine Run.region ?_ | refine Run.skip ?_ | refine Run.block ?_)
    refine Ops.indexSl (h2.mono (l5.trans l6)) rfl (by decide) rfl rfl (T.undOk rfl) (T.sizeOk rfl) (by omega) (by omega) ?_
    rintro b_ off_ x cs_ hx hr_ hA_
    obtain rfl : cs_ = [str x.1, str x.2] := hr_
    rw [Int.toNat_natCast] at hx
    refine Ops.loadIN rfl (by decide) rfl (hA_) (T.aggOk rfl) (T.sizeOk rfl) rfl ?_
    refine Ops.alloc rfl (by decide) (T.zeroOk rfl) rfl (fun b10 => ?_)
    repeat (first | refine Run.seq ?_ | refine Run.region ?_ | refine Ops.nil ?_ | refine Ops.loadN 0 rfl (by decide) rfl rfl (T.aggOk rfl) (T.sizeOk rfl) rfl rfl ?_ | refine Ops.store 0 rfl rfl rfl rfl rfl (T.sizeOk rfl) rfl (Nat.le_of_ble_eq_true rfl) rfl rfl ?_)
    refine Ops.call ((laws_hashGood J6 x (f2' x (List.mem_of_getElem? hx)))) rfl (by decide) call35 rfl ?_
    rintro _ J7 l7 rfl
    cases hd : digGood (hTell x) with
    | false =>
      repeat (first | refine Run.seq ?_ | refine Run.region ?_ | refine Ops.nil ?_ | refine Run.cond_t rfl ?_ | refine Ops.pure T rfl (by decide) rfl ?_)
      refine Run.fin (Run.ret1 (by rw [hCf]; exact func12) results12 rfl (hR _ _ _ ?_))
      exact ⟨rfl, false, rfl, by simp⟩
    | true =>
    repeat (first | refine Run.region ?_ | refine Ops.nil ?_ | refine Run.skip ?_ | refine Run.inBlock ?_ | refine Run.cond_f rfl ?_ | refine Ops.add rfl (by decide) rfl rfl (wI (by first | omega | (simp only [List.length_cons, List.length_nil] ; omega) | (simp; omega)) (by first | omega | (simp only [List.length_cons, List.length_nil] ; omega) | (simp; omega))) ?_ | refine Ops.pure T rfl (by decide) rfl ?_)
    refine Run.dropL (List.sublist_cons_self _ _) ?_
    refine Run.keep [1, 2, 3, 78, 79, 80] [_, _, _, _, _, _] rfl ?_
    refine ih (diffs.length - (i + 1)) _ _ _ (by omega) ⟨i + 1, rfl, by omega, ?_, rfl, rfl, l6.trans l7⟩
    intro t ht
    rw [List.take_add_one, hx] at ht
    rcases List.mem_append.1 ht with ht | ht
    · exact hdg t ht
    · simp at ht
      subst ht
      exact hd
  have hih : i = diffs.length := by omega
  subst hih
  clear ih
  rw [List.take_length] at hdg
  replace hG := hG.mono l6
  have l56 := l5.trans l6
  repeat (first | refine Run.seq ?_ | refine Run.region ?_ | refine Run.exit rfl ?_ | refine Ops.pure T rfl (by decide) rfl ?_ | refine Ops.loadN 0 rfl (by decide) rfl rfl (T.aggOk rfl) (T.sizeOk rfl) rfl rfl ?_)
  refine Ops.alloc rfl (by decide) (T.zeroOk rfl) rfl (fun b11 => ?_)
  repeat (first | refine Run.seq ?_ | refine Run.region ?_ | refine Ops.nil ?_ | refine Ops.pure T rfl (by decide) rfl ?_ | refine Ops.load 0 rfl (by decide) rfl rfl (T.aggOk rfl) rfl ?_ | refine Ops.store 0 rfl rfl rfl rfl rfl (T.sizeOk rfl) rfl (Nat.le_of_ble_eq_true rfl) rfl rfl ?_)
  refine Ops.lit T rfl rfl rfl (by decide) rfl (by decide) (by decide) rfl rfl rfl rfl rfl (fun b7 => ?_)
  refine Ops.freezeAt 0 rfl rfl fun J7 l7 hJ7 => ?_
  have hS7 : Sl tStr J7 (.slice (some ⟨b7, 0, none⟩) 7 7) [dom, host, img, user, dir, mac, stop] := Sl.ofBlock hJ7 (Cells.strs [dom, host, img, user, dir, mac, stop]) rfl (by decide)
  skip
  refine Ops.lit T rfl rfl rfl (by decide) rfl (by decide) (by decide) rfl rfl rfl rfl rfl (fun b8 => ?_)
  refine Ops.freezeAt 0 rfl rfl fun J8 l8 hJ8 => ?_
  have l7' := l56.trans (l7.trans l8)
  have hS8 : Sl tTx J8 (.slice (some ⟨b8, 0, none⟩) 8 8) [cmd, entry, env_, onb, shell, vol, exp_, [dom, host, img, user, dir, mac, stop]] := Sl.ofBlock hJ8 (Cells.sl (k1.mono l7') (Cells.sl (k2.mono l7') (Cells.sl (k3.mono l7') (Cells.sl (k4.mono l7') (Cells.sl (k5.mono l7') (Cells.sl (k6.mono l7') (Cells.sl (k7.mono l7') (Cells.sl (hS7.mono l8) (Cells.nil _ _))))))))) rfl (by decide)
  replace hG := hG.mono (l7.trans l8)
  have hll' : ∀ x ∈ [cmd, entry, env_, onb, shell, vol, exp_, [dom, host, img, user, dir, mac, stop]], x.length ≤ 2147483647 := hll
  have hll8 : [cmd, entry, env_, onb, shell, vol, exp_, [dom, host, img, user, dir, mac, stop]].length = 8 := rfl
  generalize hls : [cmd, entry, env_, onb, shell, vol, exp_, [dom, host, img, user, dir, mac, stop]] = ls at *
  generalize hgs : bs ++ hTexts hist = gs at *
  repeat (first | refine Ops.nil ?_ | refine Run.block ?_ | refine Ops.pure T rfl (by decide) rfl ?_)
  refine Run.keep [1, 2, 3, 11, 119, 120, 121] [_, _, _, _, _, _, _] rfl ?_
  refine Run.rounds (fun m env L J => ∃ (i : Nat) (vl : Value) (M : Own), m = 8 - i ∧ i ≤ 8 ∧ Gr tStr J 9 vl (gs ++ (ls.take i).flatten) M ∧ env = [(1, .pointer (some ⟨b1, 0, none⟩)), (2, .bool false), (3, vl), (11, .pointer (some ⟨b11, 0, none⟩)), (119, .slice (some ⟨b8, 0, none⟩) 8 8), (120, .int .i64 (8 : Nat)), (121, .int .i64 i)] ∧ L = (b11, blk ((St.mk q1 q2 q3 q4 q5 q6 q7 q8 cmd entry env_ onb shell vol exp_ dom host img user dir mac stop lab hc).cs ⟨cmdv, entryv, envv, onbv, shellv, volv, expv, ⟨A3, lab.length, z3⟩, ⟨A4, hc.length, z4⟩⟩) 28) :: (b1, blk ((Cf.mk arch author cont dver os osv var created hist rty diffs (St.mk q1 q2 q3 q4 q5 q6 q7 q8 cmd entry env_ onb shell vol exp_ dom host img user dir mac stop lab hc) feat).cs ⟨⟨A1, hist.length, z1⟩, ⟨A2, diffs.length, z2⟩, ⟨cmdv, entryv, envv, onbv, shellv, volv, expv, ⟨A3, lab.length, z3⟩, ⟨A4, hc.length, z4⟩⟩, fv⟩) 30) :: M ∧ J8 = J) 8 ⟨0, vl, M, by omega, by omega, by simpa using hG, rfl, rfl, rfl⟩ ?_
  clear hG
  rintro m env L J ⟨i, vl, M, rfl, hi, hG, rfl, rfl, rfl⟩ ih
  have hfl : (ls.take i).flatten.length ≤ 8 * 2147483647 := by
    have h8 : (ls.take i).length ≤ 8 := by rw [List.length_take]; omega
    exact Nat.le_trans (flat_len 2147483647 (ls.take i) fun x hx => hll' x (List.mem_of_mem_take hx)) (Nat.mul_le_mul_right _ h8)
  have hgl2 : (gs ++ (ls.take i).flatten).length ≤ feat.length + 8 + 3 * hist.length + 8 * 2147483647 := by rw [List.length_append]; omega
  repeat (first | refine Run.seq ?_ | refine Run.region ?_ | refine Ops.nil ?_ | refine Ops.lss rfl (by decide) rfl rfl ?_)
  refine Run.cond rfl rfl (fun h => ?_) (fun h => ?_)
  all_goals (try rw [h])
  all_goals (try simp only [decide_eq_true_eq, decide_eq_false_iff_not, Bool.not_eq_true', Bool.not_eq_false', Bool.and_eq_true, Bool.or_eq_true, Bool.and_eq_false_imp, Bool.or_eq_false_iff] at h)
  · skip
    repeat (first | refine Run.seq ?_ | refine Run.region ?_ | refine Run.skip ?_ | refine Run.block ?_)
    refine Ops.indexSl hS8 rfl (by decide) rfl rfl (T.undOk rfl) (T.sizeOk rfl) (by omega) (by omega) ?_
    rintro b_ off_ x cs_ hx hr_ hA_
    obtain ⟨w, rfl, hw⟩ := hr_
    rw [Int.toNat_natCast] at hx
    have hxl := hll' x (List.mem_of_getElem? hx)
    refine Ops.loadI rfl (by decide) rfl hA_ (T.aggOk rfl) ?_
    repeat (first | refine Run.region ?_ | refine Ops.nil ?_ | refine Ops.pure T rfl (by decide) rfl ?_)
    refine Ops.appSl (N := [_, _]) el24 hG hw (fun _ h => h.one_str) rfl (by decide) rfl rfl rfl (by omega) (by omega) fun v1 M1 hG1 => ?_
    repeat (first | refine Run.region ?_ | refine Ops.nil ?_ | refine Run.inBlock ?_ | refine Ops.add rfl (by decide) rfl rfl (wI (by first | omega | (simp only [List.length_cons, List.length_nil] ; omega) | (simp; omega)) (by first | omega | (simp only [List.length_cons, List.length_nil] ; omega) | (simp; omega))) ?_ | refine Ops.pure T rfl (by decide) rfl ?_)
    refine Run.keep [1, 2, 3, 11, 119, 120, 121] [_, _, _, _, _, _, _] rfl ?_
    refine ih (8 - (i + 1)) _ _ _ (by omega) ⟨i + 1, v1, M1, rfl, by omega, ?_, rfl, rfl, rfl⟩
    rw [List.take_add_one, hx, List.flatten_append, ← List.append_assoc, Option.toList_some, List.flatten_singleton]
    exact hG1
  have hih : i = 8 := by omega
  subst hih
  clear ih
  rw [List.take_of_length_le (by omega)] at hG hgl2
  generalize hgs2 : gs ++ ls.flatten = gs2 at *
  repeat (first | refine Run.seq ?_ | refine Run.region ?_ | refine Ops.nil ?_ | refine Run.block ?_ | refine Run.exit rfl ?_ | refine Ops.pure T rfl (by decide) rfl ?_ | refine Ops.load 0 rfl (by decide) rfl rfl (T.aggOk rfl) rfl ?_)
  refine Run.keep [1, 2, 3, 11, 130, 131, 132] [_, _, _, _, _, _, _] rfl ?_
  refine Run.rounds (fun m env L J => ∃ (i : Nat) (vl : Value) (M : Own), m = lab.length - i ∧ i ≤ lab.length ∧ Gr tStr J 9 vl (gs2 ++ aTexts (lab.take i)) M ∧ env = [(1, .pointer (some ⟨b1, 0, none⟩)), (2, .bool false), (3, vl), (11, .pointer (some ⟨b11, 0, none⟩)), (130, .slice A3 lab.length z3), (131, .int .i64 lab.length), (132, .int .i64 i)] ∧ L = (b11, blk ((St.mk q1 q2 q3 q4 q5 q6 q7 q8 cmd entry env_ onb shell vol exp_ dom host img user dir mac stop lab hc).cs ⟨cmdv, entryv, envv, onbv, shellv, volv, expv, ⟨A3, lab.length, z3⟩, ⟨A4, hc.length, z4⟩⟩) 28) :: (b1, blk ((Cf.mk arch author cont dver os osv var created hist rty diffs (St.mk q1 q2 q3 q4 q5 q6 q7 q8 cmd entry env_ onb shell vol exp_ dom host img user dir mac stop lab hc) feat).cs ⟨⟨A1, hist.length, z1⟩, ⟨A2, diffs.length, z2⟩, ⟨cmdv, entryv, envv, onbv, shellv, volv, expv, ⟨A3, lab.length, z3⟩, ⟨A4, hc.length, z4⟩⟩, fv⟩) 30) :: M ∧ J8 = J) lab.length ⟨0, vl, M, by omega, by omega, by simpa [aTexts] using hG, rfl, rfl, rfl⟩ ?_
  clear hG
  rintro m env L J ⟨i, vl, M, rfl, hi, hG, rfl, rfl, rfl⟩ ih
  have hgl3 : (gs2 ++ aTexts (lab.take i)).length ≤ feat.length + 8 + 3 * hist.length + 8 * 2147483647 + 2 * i := by rw [List.length_append, aTexts_len, List.length_take]; omega
  repeat (first | refine Run.seq ?_ | refine Run.region ?_ | refine Ops.nil ?_ | refine Ops.lss rfl (by decide) rfl rfl ?_)
  refine Run.cond rfl rfl (fun h => ?_) (fun h => ?_)
  all_goals (try rw [h])
  all_goals (try simp only [decide_eq_true_eq, decide_eq_false_iff_not, Bool.not_eq_true', Bool.not_eq_false', Bool.and_eq_true, Bool.or_eq_true, Bool.and_eq_false_imp, Bool.or_eq_false_iff] at h)
  · skip
    repeat (first | refine Run.seq ?_ | refine Run.region ?_ | refine Run.skip ?_ | refine Run.block ?_)
    refine Ops.indexSl (k8.mono l7') rfl (by decide) rfl rfl (T.undOk rfl) (T.sizeOk rfl) (by omega) (by omega) ?_
    rintro b_ off_ x cs_ hx hr_ hA_
    obtain rfl : cs_ = [str x.1, str x.2] := hr_
    rw [Int.toNat_natCast] at hx
    refine Ops.loadIN rfl (by decide) rfl (hA_) (T.aggOk rfl) (T.sizeOk rfl) rfl ?_
    refine Ops.alloc rfl (by decide) (T.zeroOk rfl) rfl (fun b15 => ?_)
    repeat (first | refine Run.region ?_ | refine Ops.nil ?_ | refine Ops.pure T rfl (by decide) rfl ?_ | refine Ops.load 0 rfl (by decide) rfl rfl (T.aggOk rfl) rfl ?_ | refine Ops.store 0 rfl rfl rfl rfl rfl (T.sizeOk rfl) rfl (Nat.le_of_ble_eq_true rfl) rfl rfl ?_)
    refine Ops.lit T rfl rfl rfl (by decide) rfl (by decide) (by decide) rfl rfl rfl rfl rfl (fun bq2 => ?_)
    refine Ops.appMany (t := tStr) (M := M) (N := [_, _, _]) (q := 2) (ys := [x.1, x.2]) el24 hG (Cells.strs _) rfl rfl (by decide) rfl rfl rfl rfl (by omega) (by omega) fun v' M' hG' => ?_
    repeat (first | refine Run.region ?_ | refine Ops.nil ?_ | refine Run.inBlock ?_ | refine Ops.add rfl (by decide) rfl rfl (wI (by first | omega | (simp only [List.length_cons, List.length_nil] ; omega) | (simp; omega)) (by first | omega | (simp only [List.length_cons, List.length_nil] ; omega) | (simp; omega))) ?_ | refine Ops.pure T rfl (by decide) rfl ?_)
    refine Run.dropL (List.sublist_cons_self _ _) ?_
    refine Run.keep [1, 2, 3, 11, 130, 131, 132] [_, _, _, _, _, _, _] rfl ?_
    refine ih (lab.length - (i + 1)) _ _ _ (by omega) ⟨i + 1, v', M', rfl, by omega, ?_, rfl, rfl, rfl⟩
    rw [List.take_add_one, hx]
    unfold aTexts at hG' ⊢
    rw [List.flatMap_append, ← List.append_assoc]
    simpa using hG'
  have hih : i = lab.length := by omega
  subst hih
  clear ih
  rw [List.take_length] at hG hgl3
  generalize hgs3 : gs2 ++ aTexts lab = gs3 at *
  repeat (first | refine Run.seq ?_ | refine Run.region ?_ | refine Ops.nil ?_ | refine Run.block ?_ | refine Run.exit rfl ?_ | refine Ops.pure T rfl (by decide) rfl ?_ | refine Ops.load 0 rfl (by decide) rfl rfl (T.aggOk rfl) rfl ?_)
  refine Run.keep [1, 2, 3, 11, 145, 146, 147] [_, _, _, _, _, _, _] rfl ?_
  refine Run.rounds (fun m env L J => ∃ (i : Nat) (vl : Value) (M : Own), m = hc.length - i ∧ i ≤ hc.length ∧ Gr tStr J 9 vl (gs3 ++ eTexts (hc.take i)) M ∧ env = [(1, .pointer (some ⟨b1, 0, none⟩)), (2, .bool false), (3, vl), (11, .pointer (some ⟨b11, 0, none⟩)), (145, .slice A4 hc.length z4), (146, .int .i64 hc.length), (147, .int .i64 i)] ∧ L = (b11, blk ((St.mk q1 q2 q3 q4 q5 q6 q7 q8 cmd entry env_ onb shell vol exp_ dom host img user dir mac stop lab hc).cs ⟨cmdv, entryv, envv, onbv, shellv, volv, expv, ⟨A3, lab.length, z3⟩, ⟨A4, hc.length, z4⟩⟩) 28) :: (b1, blk ((Cf.mk arch author cont dver os osv var created hist rty diffs (St.mk q1 q2 q3 q4 q5 q6 q7 q8 cmd entry env_ onb shell vol exp_ dom host img user dir mac stop lab hc) feat).cs ⟨⟨A1, hist.length, z1⟩, ⟨A2, diffs.length, z2⟩, ⟨cmdv, entryv, envv, onbv, shellv, volv, expv, ⟨A3, lab.length, z3⟩, ⟨A4, hc.length, z4⟩⟩, fv⟩) 30) :: M ∧ J8 = J) hc.length ⟨0, vl, M, by omega, by omega, by simpa [eTexts] using hG, rfl, rfl, rfl⟩ ?_
  clear hG
  rintro m env L J ⟨i, vl, M, rfl, hi, hG, rfl, rfl, rfl⟩ ih
  have hel := eTexts_take hc i
  have hgl4 : (gs3 ++ eTexts (hc.take i)).length ≤ feat.length + 8 + 3 * hist.length + 8 * 2147483647 + 2 * lab.length + 1048576 := by rw [List.length_append]; omega
  repeat (first | refine Run.seq ?_ | refine Run.region ?_ | refine Ops.nil ?_ | refine Ops.lss rfl (by decide) rfl rfl ?_)
  refine Run.cond rfl rfl (fun h => ?_) (fun h => ?_)
  all_goals (try rw [h])
  all_goals (try simp only [decide_eq_true_eq, decide_eq_false_iff_not, Bool.not_eq_true', Bool.not_eq_false', Bool.and_eq_true, Bool.or_eq_true, Bool.and_eq_false_imp, Bool.or_eq_false_iff] at h)
  · skip
    repeat (first | refine Run.seq ?_ | refine Run.region ?_ | refine Run.skip ?_ | refine Run.block ?_)
    refine Ops.indexSl (k9.mono l7') rfl (by decide) rfl rfl (T.undOk rfl) (T.sizeOk rfl) (by omega) (by omega) ?_
    rintro b_ off_ x cs_ hx hr_ hA_
    obtain ⟨B1_, a1, rfl, s1⟩ := hr_
    rw [Int.toNat_natCast] at hx
    have hxl : x.test.length ≤ 2147483647 := (x2' x (List.mem_of_getElem? hx)).1
    refine Ops.loadIN rfl (by decide) rfl (hA_) (T.aggOk rfl) (T.sizeOk rfl) rfl ?_
    refine Ops.alloc rfl (by decide) (T.zeroOk rfl) rfl (fun b17 => ?_)
    repeat (first | refine Run.region ?_ | refine Ops.nil ?_ | refine Ops.pure T rfl (by decide) rfl ?_ | refine Ops.load 0 rfl (by decide) rfl rfl (T.aggOk rfl) rfl ?_ | refine Ops.store 0 rfl rfl rfl rfl rfl (T.sizeOk rfl) rfl (Nat.le_of_ble_eq_true rfl) rfl rfl ?_)
    refine Ops.appSl (N := [_, _, _]) el24 hG s1 (fun _ h => h.one_str) rfl (by decide) rfl rfl rfl (by omega) (by omega) fun v' M' hG' => ?_
    repeat (first | refine Run.region ?_ | refine Ops.nil ?_ | refine Run.inBlock ?_ | refine Ops.add rfl (by decide) rfl rfl (wI (by first | omega | (simp only [List.length_cons, List.length_nil] ; omega) | (simp; omega)) (by first | omega | (simp only [List.length_cons, List.length_nil] ; omega) | (simp; omega))) ?_ | refine Ops.pure T rfl (by decide) rfl ?_)
    refine Run.dropL (List.sublist_cons_self _ _) ?_
    refine Run.keep [1, 2, 3, 11, 145, 146, 147] [_, _, _, _, _, _, _] rfl ?_
    refine ih (hc.length - (i + 1)) _ _ _ (by omega) ⟨i + 1, v', M', rfl, by omega, ?_, rfl, rfl, rfl⟩
    rw [List.take_add_one, hx]
    unfold eTexts at hG' ⊢
    rw [List.flatMap_append, ← List.append_assoc]
    simpa using hG'
  have hih : i = hc.length := by omega
  subst hih
  clear ih
  rw [List.take_length] at hG hgl4
  obtain ⟨Ay, cy, rfl⟩ := hG.isSl
  refine Run.keepGr hG (N := [_, _]) (List.perm_append_comm (l₁ := [_, _]) (l₂ := M)) fun J9 l9 hGS => ?_
  have l9' := l7'.trans l9
  clear hG
  have hall' : gs3 ++ eTexts hc = cTexts (Cf.mk arch author cont dver os osv var created hist rty diffs (St.mk q1 q2 q3 q4 q5 q6 q7 q8 cmd entry env_ onb shell vol exp_ dom host img user dir mac stop lab hc) feat) := by
    rw [← hgs3, ← hgs2, ← hgs, ← hls, ← hbs]
    rfl
  repeat (first | refine Run.seq ?_ | refine Run.region ?_ | refine Run.exit rfl ?_ | refine Ops.leq rfl (by decide) rfl rfl ?_ | refine Ops.pure T rfl (by decide) rfl ?_ | refine Ops.load 0 rfl (by decide) rfl rfl (T.aggOk rfl) rfl ?_)
  cases hc1 : decide ((hc.length : Int) ≤ 1) with
  | false =>
    repeat (first | refine Ops.nil ?_ | refine Ops.not rfl (by decide) ?_ | refine Ops.pure T rfl (by decide) rfl ?_)
    refine Run.fin (Run.ret1 (by rw [hCf]; exact func12) results12 rfl (hR _ _ _ ?_))
    exact ⟨rfl, false, rfl, by simp⟩
  | true =>
  repeat (first | refine Ops.leq rfl (by decide) rfl rfl ?_ | refine Ops.pure T rfl (by decide) rfl ?_ | refine Ops.load 1 rfl (by decide) rfl rfl (T.aggOk rfl) rfl ?_)
  cases hc2 : decide ((hist.length : Int) ≤ 8) with
  | false =>
    repeat (first | refine Ops.nil ?_ | refine Ops.not rfl (by decide) ?_ | refine Ops.pure T rfl (by decide) rfl ?_)
    refine Run.fin (Run.ret1 (by rw [hCf]; exact func12) results12 rfl (hR _ _ _ ?_))
    exact ⟨rfl, false, rfl, by simp⟩
  | true =>
  repeat (first | refine Ops.leq rfl (by decide) rfl rfl ?_ | refine Ops.pure T rfl (by decide) rfl ?_ | refine Ops.load 1 rfl (by decide) rfl rfl (T.aggOk rfl) rfl ?_)
  cases hc3 : decide ((diffs.length : Int) ≤ 8) with
  | false =>
    repeat (first | refine Ops.nil ?_ | refine Ops.not rfl (by decide) ?_ | refine Ops.pure T rfl (by decide) rfl ?_)
    refine Run.fin (Run.ret1 (by rw [hCf]; exact func12) results12 rfl (hR _ _ _ ?_))
    exact ⟨rfl, false, rfl, by simp⟩
  | true =>
  repeat (first | refine Ops.pure T rfl (by decide) rfl ?_ | refine Ops.load 0 rfl (by decide) rfl rfl (T.aggOk rfl) rfl ?_)
  refine Ops.call ((laws_pairsGood J9 lab _ (k8.mono l9') x1)) rfl (by decide) call36 rfl ?_
  rintro _ J10 l10 ⟨r1, rfl, gp⟩
  cases r1 with
  | false =>
    repeat (first | refine Ops.nil ?_ | refine Ops.not rfl (by decide) ?_ | refine Ops.pure T rfl (by decide) rfl ?_)
    refine Run.fin (Run.ret1 (by rw [hCf]; exact func12) results12 rfl (hR _ _ _ ?_))
    exact ⟨rfl, false, rfl, by simp⟩
  | true =>
  repeat (first | refine Ops.pure T rfl (by decide) rfl ?_ | refine Ops.load 0 rfl (by decide) rfl rfl (T.aggOk rfl) rfl ?_)
  refine Ops.call ((laws_keysGood J10 vol _ (k6.mono (l9'.trans l10)) u6)) rfl (by decide) call37 rfl ?_
  rintro _ J11 l11 ⟨r2, rfl, gv⟩
  cases r2 with
  | false =>
    repeat (first | refine Ops.nil ?_ | refine Ops.not rfl (by decide) ?_ | refine Ops.pure T rfl (by decide) rfl ?_)
    refine Run.fin (Run.ret1 (by rw [hCf]; exact func12) results12 rfl (hR _ _ _ ?_))
    exact ⟨rfl, false, rfl, by simp⟩
  | true =>
  repeat (first | refine Ops.pure T rfl (by decide) rfl ?_ | refine Ops.load 0 rfl (by decide) rfl rfl (T.aggOk rfl) rfl ?_)
  refine Ops.call ((laws_keysGood J11 exp_ _ (k7.mono ((l9'.trans l10).trans l11)) u7)) rfl (by decide) call37 rfl ?_
  rintro _ J12 l12 ⟨r3, rfl, ge⟩
  cases r3 with
  | false =>
    repeat (first | refine Ops.nil ?_ | refine Ops.not rfl (by decide) ?_ | refine Ops.pure T rfl (by decide) rfl ?_)
    refine Run.fin (Run.ret1 (by rw [hCf]; exact func12) results12 rfl (hR _ _ _ ?_))
    exact ⟨rfl, false, rfl, by simp⟩
  | true =>
  repeat (first | refine Ops.pure T rfl (by decide) rfl ?_)
  refine Ops.call ((laws_textsGood J12 (hU.mono (((l9'.trans l10).trans l11).trans l12)) _ _ (hGS.mono ((l10.trans l11).trans l12)) (by rw [hall']; exact hct) (by omega))) rfl (by decide) call38 rfl ?_
  rintro _ J13 l13 ⟨r4, rfl, gt⟩
  repeat (first | refine Ops.nil ?_ | refine Ops.pure T rfl (by decide) rfl ?_)
  refine Run.fin (Run.ret1 (by rw [hCf]; exact func12) results12 rfl (hR _ _ _ ?_))
  refine ⟨rfl, r4, rfl, fun hr => ?_⟩
  have hg := gt hr
  rw [hall'] at hg
  have := of_decide_eq_true hc1
  have := of_decide_eq_true hc2
  have := of_decide_eq_true hc3
  refine ⟨by rw [hts]; exact hall, hdg, by simp only; omega, by simp only; omega, by simp only; omega, gp rfl, gv rfl, ge rfl, hg.1, hg.2⟩
end Go.V
namespace Go.V
open Go.RowKit
set_option linter.unusedVariables false
set_option linter.unusedSimpArgs false
def Cd.wt : (c : Cd) → c.ty → Nat
  | .int _, _ => 1
  | .bool, _ => 1
  | .str, s => (s : List UInt8).length + 1
  | .sl e, xs => let l : List e.ty := xs; (l.map e.wt).sum + 1
  | .nsl e, xs => let l : Option (List e.ty) := xs; ((l.getD []).map e.wt).sum + 1
  | .st c, x => c.wt x
  | .pair c r, x => c.wt (x : c.ty × r.ty).1 + r.wt (x : c.ty × r.ty).2
def bk {H : Type} (d : DataW H × List MemPlace) : Nat := Proofs.YtbalfblfkfbejaaGreatDoor.Rows.uptoBulk d.1
theorem bulkAll_map {H : Type} : ∀ l : List (DataW H × List MemPlace), Proofs.YtbalfblfkfbejaaGreatDoor.Rows.uptoBulkAll (l.map (·.1)) = (l.map bk).sum
  | [] => rfl
  | x :: r => by
    rw [List.map_cons, List.map_cons, List.sum_cons, Proofs.YtbalfblfkfbejaaGreatDoor.Rows.uptoBulkAll, bulkAll_map r]
    rfl
section
variable {H : Type} {enc : TypeId × Value → H} {P : Program} {W : World}
theorem read_row2 {e : Cd} {te : TypeId} {a : Addr} (elems : List (DataW H × List MemPlace)) (hsz : e.T.size = P.cellsOf te)
    (hf : ∀ (i : Nat) y, elems[i]? = some y → ∃ cs, W.cells? 0 (a.add (i * P.cellsOf te)) (P.cellsOf te) = some cs ∧ ∃ x, e.T.rel (whole W) cs x ∧ e.ok x ∧ e.wt x ≤ bk y) :
    ∃ xs : List e.ty, xs.length = elems.length ∧ (∀ x ∈ xs, e.ok x) ∧ (xs.map e.wt).sum ≤ (elems.map bk).sum ∧ (xs = [] ∨ ∃ b off, a = ⟨b, off, none⟩ ∧ RowAt e.T (whole W) b off xs) := by
  have key : ∀ m, m ≤ elems.length → ∃ xs : List e.ty, xs.length = m ∧ (∀ x ∈ xs, e.ok x) ∧ (xs.map e.wt).sum ≤ ((elems.take m).map bk).sum ∧ ∀ (i : Nat) x, xs[i]? = some x → ∃ cs, e.T.rel (whole W) cs x ∧ W.cells? 0 (a.add (i * P.cellsOf te)) (P.cellsOf te) = some cs := by
    intro m
    induction m with
    | zero => exact fun _ => ⟨[], rfl, by simp, by simp, by simp⟩
    | succ m ih =>
      intro hm
      obtain ⟨xs, h1, h2, hw, h3⟩ := ih (by omega)
      have hy : elems[m]? = some elems[m] := List.getElem?_eq_getElem hm
      obtain ⟨cs, hcs, x, hx, hok, hwt⟩ := hf m _ hy
      refine ⟨xs ++ [x], by simp [h1], ?_, ?_, ?_⟩
      · intro z hz
        rcases List.mem_append.1 hz with hz | hz
        · exact h2 z hz
        · simp at hz; subst hz; exact hok
      · rw [List.take_succ_eq_append_getElem hm, List.map_append, List.map_append, List.sum_append, List.sum_append]
        simp only [List.map_cons, List.map_nil, List.sum_cons, List.sum_nil]
        omega
      · intro i z hz
        by_cases hi : i < m
        · rw [List.getElem?_append_left (by omega)] at hz
          exact h3 i z hz
        · rw [List.getElem?_append_right (by omega), h1] at hz
          have : i = m := by
            have := (List.getElem?_eq_some_iff.1 hz).1; simp at this; omega
          subst this
          simp at hz; subst hz
          exact ⟨cs, hx, hcs⟩
  obtain ⟨xs, h1, h2, hw, h3⟩ := key elems.length (Nat.le_refl _)
  rw [List.take_length] at hw
  refine ⟨xs, h1, h2, hw, ?_⟩
  cases hxs : xs with
  | nil => exact .inl rfl
  | cons x0 r =>
    right
    have hpos : 1 ≤ P.cellsOf te := by rw [← hsz]; exact Cd.size_pos e
    have hat : ∀ (i : Nat) x, xs[i]? = some x → ∃ cs, e.T.rel (whole W) cs x ∧ (a.add (i * P.cellsOf te)).spot = none ∧ At (whole W) (a.add (i * P.cellsOf te)).block (a.add (i * P.cellsOf te)).off cs := by
      intro i x hx
      obtain ⟨cs, hr, hc⟩ := h3 i x hx
      obtain ⟨hl, hc'⟩ := cells_spec hc
      have hne : cs ≠ [] := fun he => by subst he; simp at hl; omega
      obtain ⟨hs, hA⟩ := at_whole hne hc'
      exact ⟨cs, hr, hs, hA⟩
    obtain ⟨_, _, hs0, _⟩ := hat 0 x0 (by rw [hxs]; rfl)
    rw [Nat.zero_mul, show a.add 0 = a by simp [Addr.add]] at hs0
    have ha : a = ⟨a.block, a.off, none⟩ := by cases a; simp at hs0; subst hs0; rfl
    refine ⟨a.block, a.off, ha, ?_⟩
    rw [← hxs]
    intro i x hx
    obtain ⟨cs, hr, _, hA⟩ := hat i x hx
    refine ⟨cs, hr, ?_⟩
    rw [ha, add_off, ← hsz] at hA
    exact hA
theorem read_fs2 {d : Nat} (hrec : ∀ c t fuel cs dat, Cd.fits P d c t = true → DataW.trod enc P W 0 (fun _ => true) true fuel t cs = some dat → ∃ x, c.T.rel (whole W) cs x ∧ c.ok x ∧ c.wt x ≤ bk dat) {fuel : Nat} (cs : List Value) :
    ∀ (c : Cd) (fs : List Field) (off : Nat) (ys : List (DataW H × List MemPlace)), fitsFs (Cd.fits P d) P.cellsOf c fs off = true → ys.length = fs.length →
      (∀ (i : Nat) f, fs[i]? = some f → DataW.trod enc P W 0 (fun _ => true) true fuel f.type ((cs.drop f.offset).take (P.cellsOf f.type)) = ys[i]?) →
      cs.length = off + c.T.size → ∃ x, c.T.rel (whole W) (cs.drop off) x ∧ c.ok x ∧ c.wt x ≤ (ys.map bk).sum := by
  intro c
  have last : ∀ (c : Cd) (f : Field) (off : Nat) (y : DataW H × List MemPlace), (f.offset == off && Cd.fits P d c f.type) = true →
      DataW.trod enc P W 0 (fun _ => true) true fuel f.type ((cs.drop f.offset).take (P.cellsOf f.type)) = some y →
      cs.length = off + c.T.size → ∃ x, c.T.rel (whole W) (cs.drop off) x ∧ c.ok x ∧ c.wt x ≤ bk y := by
    intro c f off y hfit hy hlen
    simp only [Bool.and_eq_true, beq_iff_eq] at hfit
    obtain ⟨ho, hf⟩ := hfit
    obtain ⟨x, hx, hok, hw⟩ := hrec c f.type fuel _ y hf hy
    refine ⟨x, ?_, hok, hw⟩
    rw [ho, ← Cd.fits_size d c f.type hf, List.take_of_length_le (by simp; omega)] at hx
    exact hx
  induction c with
  | pair c r _ ihr =>
    intro fs off ys hfit hys hm hlen
    cases fs with
    | nil => simp [fitsFs] at hfit
    | cons f fs =>
      cases ys with
      | nil => simp at hys
      | cons y ys =>
      simp only [fitsFs, Bool.and_eq_true, beq_iff_eq] at hfit
      obtain ⟨⟨ho, hf⟩, hfs⟩ := hfit
      have hy : DataW.trod enc P W 0 (fun _ => true) true fuel f.type ((cs.drop f.offset).take (P.cellsOf f.type)) = some y := hm 0 f rfl
      obtain ⟨x, hx, hok, hw⟩ := hrec c f.type fuel _ y hf hy
      have hsz := Cd.fits_size d c f.type hf
      have hl : cs.length = off + (c.T.size + r.T.size) := hlen
      obtain ⟨z, hy2, hok2, hw2⟩ := ihr fs (off + P.cellsOf f.type) ys hfs (by simpa using hys) (fun i g hg => hm (i + 1) g hg) (by rw [← hsz]; omega)
      refine ⟨(x, z), ⟨(cs.drop off).take c.T.size, cs.drop (off + P.cellsOf f.type), ?_, ?_, hy2⟩, ⟨hok, hok2⟩, ?_⟩
      · rw [← hsz, ← List.drop_drop, List.take_append_drop]
      · rw [ho, ← hsz] at hx; exact hx
      · show c.wt x + r.wt z ≤ _
        rw [List.map_cons, List.sum_cons]
        omega
  | _ =>
    intro fs off ys hfit hys hm hlen
    cases fs with
    | nil => simp [fitsFs] at hfit
    | cons f fs =>
      cases fs with
      | nil =>
        cases ys with
        | nil => simp at hys
        | cons y ys =>
        obtain ⟨x, h1, h2, h3⟩ := last _ f off y (by simpa [fitsFs] using hfit) (hm 0 f rfl) hlen
        exact ⟨x, h1, h2, by rw [List.map_cons, List.sum_cons]; omega⟩
      | cons _ _ => simp [fitsFs] at hfit
theorem read2 (d : Nat) : ∀ c t fuel cs dat, Cd.fits P d c t = true → DataW.trod enc P W 0 (fun _ => true) true fuel t cs = some dat → ∃ x, c.T.rel (whole W) cs x ∧ c.ok x ∧ c.wt x ≤ bk dat := by
  induction d with
  | zero => intro c t fuel cs dat h; simp [Cd.fits] at h
  | succ d ih =>
    intro c t fuel cs dat hfit h
    simp only [Cd.fits] at hfit
    have row : ∀ (e : Cd) (te : TypeId) (a : Addr) (len n : Nat) (elems : List (DataW H × List MemPlace)), Cd.fits P d e te = true → elems.length = len →
        (∀ i, i < len → (W.cells? 0 (a.add (i * P.cellsOf te)) (P.cellsOf te)).bind (DataW.trod enc P W 0 (fun _ => true) true n te) = elems[i]?) →
        ∃ xs : List e.ty, xs.length = len ∧ (∀ x ∈ xs, e.ok x) ∧ (xs.map e.wt).sum ≤ (elems.map bk).sum ∧ (xs = [] ∨ ∃ b off, a = ⟨b, off, none⟩ ∧ RowAt e.T (whole W) b off xs) := by
      intro e te a len n elems hfe hlen hel
      subst hlen
      refine read_row2 elems (Cd.fits_size d e te hfe) ?_
      intro i y hy
      have hi' := hel i (List.getElem?_eq_some_iff.1 hy).1
      rw [hy] at hi'
      obtain ⟨cs, hcs, ht⟩ := Option.bind_eq_some_iff.1 hi'
      exact ⟨cs, hcs, ih e te n cs _ hfe ht⟩
    split at hfit
    · rename_i k k' hu
      simp only [Bool.and_eq_true, beq_iff_eq] at hfit
      obtain ⟨rfl, _⟩ := hfit
      obtain ⟨m, rfl, rfl, hw⟩ := DataW.trod_int hu h
      exact ⟨m, rfl, hw, Nat.le_of_eq (by simp [Cd.wt, bk, Proofs.YtbalfblfkfbejaaGreatDoor.Rows.uptoBulk])⟩
    · rename_i hu
      obtain ⟨b, rfl, rfl⟩ := DataW.trod_bool hu h
      exact ⟨b, rfl, trivial, Nat.le_of_eq (by simp [Cd.wt, bk, Proofs.YtbalfblfkfbejaaGreatDoor.Rows.uptoBulk])⟩
    · rename_i hu
      obtain ⟨s, rfl, rfl, hs⟩ := DataW.trod_string hu h
      refine ⟨s.data.toList, ?_, ?_, Nat.le_of_eq (by simp [Cd.wt, bk, Proofs.YtbalfblfkfbejaaGreatDoor.Rows.uptoBulk])⟩
      · show [Value.string s] = [str s.data.toList]
        simp [str]
      · show s.data.toList.length ≤ maxLen
        rw [Array.length_toList]; exact hs
    · rename_i e te hu
      simp only [Bool.and_eq_true, beq_iff_eq] at hfit
      rcases DataW.trod_slice hu h with ⟨rfl, rfl⟩ | ⟨a, len, cap, elems, rest, n, rfl, rfl, rfl, _, hlc, hcm, hlen, hel, _⟩
      · refine ⟨([] : List e.ty), ⟨_, rfl, Sl.nil _ _⟩, ?_, ?_⟩
        · exact ⟨Nat.zero_le _, fun x hx => by cases hx⟩
        · simp [Cd.wt, bk, Proofs.YtbalfblfkfbejaaGreatDoor.Rows.uptoBulk]
      · obtain ⟨xs, h1, h2, hw, h3⟩ := row e te a len n elems hfit.1 hlen hel
        refine ⟨xs, ⟨_, rfl, some a, cap, by rw [h1], by rw [h1]; exact hlc, h3.imp id fun ⟨b, off, h4, h5⟩ => ⟨b, off, by rw [h4], h5⟩⟩, ?_, ?_⟩
        · exact ⟨by rw [h1]; omega, h2⟩
        · show (xs.map e.wt).sum + 1 ≤ Proofs.YtbalfblfkfbejaaGreatDoor.Rows.uptoBulk (.slice (elems.map (·.1)) (rest.map (·.1)))
          rw [Proofs.YtbalfblfkfbejaaGreatDoor.Rows.uptoBulk, bulkAll_map]
          omega
    · rename_i e te hu
      simp only [Bool.and_eq_true, beq_iff_eq] at hfit
      rcases DataW.trod_slice hu h with ⟨rfl, rfl⟩ | ⟨a, len, cap, elems, rest, n, rfl, rfl, rfl, _, hlc, hcm, hlen, hel, _⟩
      · exact ⟨(none : Option (List e.ty)), rfl, (fun l hl => by cases hl), by simp [Cd.wt, bk, Proofs.YtbalfblfkfbejaaGreatDoor.Rows.uptoBulk]⟩
      · obtain ⟨xs, h1, h2, hw, h3⟩ := row e te a len n elems hfit.1 hlen hel
        refine ⟨(some xs : Option (List e.ty)), ⟨a, cap, by rw [h1], by rw [h1]; exact hlc, h3⟩, ?_, ?_⟩
        · intro l hl
          cases hl
          exact ⟨by rw [h1]; omega, h2⟩
        · show (xs.map e.wt).sum + 1 ≤ Proofs.YtbalfblfkfbejaaGreatDoor.Rows.uptoBulk (.slice (elems.map (·.1)) (rest.map (·.1)))
          rw [Proofs.YtbalfblfkfbejaaGreatDoor.Rows.uptoBulk, bulkAll_map]
          omega
    · rename_i c fs hu
      simp only [Bool.and_eq_true, beq_iff_eq] at hfit
      obtain ⟨xs, n, rfl, rfl, hl, hxl, hel⟩ := DataW.trod_struct hu h
      obtain ⟨x, hx, hok, hw⟩ := read_fs2 ih (fuel := n) cs c fs.toList 0 xs hfit.1 (by simpa using hxl) (fun i f hi => hel i f (by simpa using hi)) (by rw [hl, hfit.2]; omega)
      rw [List.drop_zero] at hx
      refine ⟨x, hx, hok, ?_⟩
      show c.wt x ≤ Proofs.YtbalfblfkfbejaaGreatDoor.Rows.uptoBulk (.agg (xs.map (·.1)))
      rw [Proofs.YtbalfblfkfbejaaGreatDoor.Rows.uptoBulk, bulkAll_map]
      omega
    · cases hfit
end
theorem read_arg2 {H : Type} {enc : TypeId × Value → H} {P : Program} {W : World} (d : Nat) {c : Cd} {t : TypeId} {v : Value} {dat : DataW H} {ps : List MemPlace} {r : Reach} {base : Nat} (hf : Cd.fits P (d + 1) c t = true)
    (hv : Value.okWide P W r base t v) (h : DataW.Trod enc P W 0 (fun _ => true) true t v dat ps) : ∃ x, Val c (whole W) v x ∧ c.ok x ∧ c.wt x ≤ Proofs.YtbalfblfkfbejaaGreatDoor.Rows.uptoBulk dat := by
  obtain ⟨fuel, hr⟩ := h
  obtain ⟨x, hx, hok, hw⟩ := read2 (d + 1) c t fuel _ _ hf hr
  have flat : (∀ cs, ¬ Cell.okWide P W r base t (.agg cs)) → Cell.okWide P W r base t v → v.cells.toList = [v] := by
    intro h1 h2
    cases v <;> first | rfl | exact absurd h2 (h1 _)
  simp only [Cd.fits] at hf
  split at hf
  case h_6 c fs hu =>
    simp only [Value.okWide, hu] at hv
    obtain ⟨cs, rfl, _⟩ := hv
    exact ⟨x, ⟨cs.toList, by simp, hx⟩, hok, hw⟩
  case h_7 => cases hf
  all_goals
    rename_i hu
    simp only [Value.okWide, hu] at hv
    rw [flat (fun cs hc => by simp [Cell.okWide, hu, Cell.ok] at hc) hv] at hx
    exact ⟨x, hx, hok, hw⟩
theorem Cd.wt_pos : ∀ (c : Cd) (x : c.ty), 1 ≤ c.wt x
  | .int _, _ => Nat.le_refl _
  | .bool, _ => Nat.le_refl _
  | .str, s => Nat.le_add_left _ _
  | .sl e, xs => Nat.le_add_left _ _
  | .nsl e, xs => Nat.le_add_left _ _
  | .st c, x => Cd.wt_pos c x
  | .pair c r, x => Nat.le_trans (Cd.wt_pos c (x : c.ty × r.ty).1) (Nat.le_add_right _ _)
theorem Cd.len_wt (e : Cd) : ∀ l : List e.ty, l.length ≤ (l.map e.wt).sum
  | [] => Nat.le_refl _
  | x :: r => by
    have := Cd.wt_pos e x
    have := Cd.len_wt e r
    rw [List.map_cons, List.sum_cons, List.length_cons]
    omega
end Go.V
namespace Go.V
open Go.RowKit
set_option linter.unusedVariables false
set_option linter.unusedSimpArgs false
set_option maxRecDepth 10000
abbrev cdK2 : Cd := .st (.pair .str .str)
abbrev cdHi : Cd := .st (.pair .str (.pair .str (.pair .str (.pair (.int .i64) .bool))))
abbrev cdHe : Cd := .st (.pair (.nsl .str) (.pair (.int .i64) (.pair (.int .i64) (.pair (.int .i64) (.int .i64)))))
abbrev cdSt : Cd := .st (.pair .bool (.pair .bool (.pair .bool (.pair .bool (.pair .bool (.pair .bool (.pair .bool (.pair .bool (.pair (.nsl .str) (.pair (.nsl .str) (.pair (.nsl .str) (.pair (.nsl .str) (.pair (.nsl .str) (.pair (.nsl .str) (.pair (.nsl .str) (.pair .str (.pair .str (.pair .str (.pair .str (.pair .str (.pair .str (.pair .str (.pair (.nsl cdK2) (.nsl cdHe))))))))))))))))))))))))
abbrev cdCf : Cd := .st (.pair .str (.pair .str (.pair .str (.pair .str (.pair .str (.pair .str (.pair .str (.pair (.int .i64) (.pair (.nsl cdHi) (.pair .str (.pair (.nsl cdK2) (.pair cdSt (.nsl .str)))))))))))))
theorem nsl_mapC {α β : Type} {t : Ty α} {t' : Ty β} {I : Imm} {cs : List Value} {x : Option (List α)} (φ : α → β) (hs : t'.size = t.size) (hφ : ∀ cs x, t.rel I cs x → t'.rel I cs (φ x)) (h : (tNSl t).rel I cs x) : ∃ s : SlV, cs = [s.v] ∧ Sl t' I s.v ((x.getD []).map φ) := by
  cases x with
  | none => exact ⟨⟨none, 0, 0⟩, h, Sl.nil _ _⟩
  | some xs =>
    obtain ⟨a, c, h1, h2, h3⟩ := h
    have hS : Sl t I (.slice (some a) xs.length c) xs := ⟨some a, c, rfl, h2, h3.imp id fun ⟨b, off, h4, h5⟩ => ⟨b, off, by rw [h4], h5⟩⟩
    exact ⟨⟨some a, xs.length, c⟩, h1, hS.map φ hs hφ⟩
theorem rel_k2C {I : Imm} (cs : List Value) (x : cdK2.ty) (h : cdK2.T.rel I cs x) : tK2.rel I cs (x : K2) := by
  obtain ⟨c1, c2, rfl, h1, h2⟩ := h
  have e1 : c1 = [str x.1] := h1
  have e2 : c2 = [str x.2] := h2
  subst e1 e2
  rfl
theorem rel_strC {I : Imm} (cs : List Value) (x : List UInt8) (h : (Cd.str).T.rel I cs x) : tStr.rel I cs x := h
def asTxC (x : Option (List Bs)) : List Bs := (x.getD []).map fun y : Bs => y
def asK2C (x : cdK2.ty) : K2 := (x.1, x.2)
def asHi (x : cdHi.ty) : Hi := ⟨x.1, x.2.1, x.2.2.1, x.2.2.2.1, x.2.2.2.2⟩
theorem rel_hi {I : Imm} (cs : List Value) (x : cdHi.ty) (h : cdHi.T.rel I cs x) : tHi.rel I cs (asHi x) := by
  obtain ⟨c1, c2, rfl, rfl, c3, c4, rfl, rfl, c5, c6, rfl, rfl, c7, c8, rfl, rfl, rfl⟩ := h
  rfl
def asHe (x : cdHe.ty) : He := ⟨asTxC x.1, x.2.1, x.2.2.1, x.2.2.2.1, x.2.2.2.2⟩
theorem rel_he {I : Imm} (cs : List Value) (x : cdHe.ty) (h : cdHe.T.rel I cs x) : tHe.rel I cs (asHe x) := by
  obtain ⟨c1, c2, rfl, hf, c3, c4, rfl, rfl, c5, c6, rfl, rfl, c7, c8, rfl, rfl, rfl⟩ := h
  obtain ⟨⟨A, n, c⟩, rfl, h1⟩ := nsl_mapC (t' := tStr) (fun x : Bs => x) rfl rel_strC hf
  replace h1 : Sl tStr I (.slice A n c) (asHe x).test := h1
  obtain ⟨_, _, e⟩ := h1.isSl
  cases e
  exact ⟨A, c, rfl, h1⟩
theorem wt_he (x : cdHe.ty) : (asHe x).test.length ≤ cdHe.wt x := by
  have h := Cd.len_wt .str ((x.1 : Option (List Bs)).getD [])
  have h1 : (asHe x).test.length = ((x.1 : Option (List Bs)).getD []).length := by show (asTxC x.1).length = _; unfold asTxC; exact List.length_map _
  have h2 : cdHe.wt x = ((((x.1 : Option (List Bs)).getD []).map (Cd.str).wt).sum + 1) + (1 + (1 + (1 + 1))) := rfl
  have h3 : ((x.1 : Option (List Bs)).getD []).length ≤ (((x.1 : Option (List Bs)).getD []).map (Cd.str).wt).sum := h
  omega
theorem wt_hes : ∀ l : List cdHe.ty, ((l.map asHe).flatMap fun h => h.test).length ≤ (l.map cdHe.wt).sum
  | [] => Nat.le_refl _
  | x :: r => by
    have h1 := wt_he x
    have h2 := wt_hes r
    rw [List.map_cons, List.map_cons, List.sum_cons, List.flatMap_cons, List.length_append]
    omega
def asSt (x : cdSt.ty) : St := ⟨x.1, x.2.1, x.2.2.1, x.2.2.2.1, x.2.2.2.2.1, x.2.2.2.2.2.1, x.2.2.2.2.2.2.1, x.2.2.2.2.2.2.2.1, asTxC x.2.2.2.2.2.2.2.2.1, asTxC x.2.2.2.2.2.2.2.2.2.1, asTxC x.2.2.2.2.2.2.2.2.2.2.1, asTxC x.2.2.2.2.2.2.2.2.2.2.2.1, asTxC x.2.2.2.2.2.2.2.2.2.2.2.2.1, asTxC x.2.2.2.2.2.2.2.2.2.2.2.2.2.1, asTxC x.2.2.2.2.2.2.2.2.2.2.2.2.2.2.1, x.2.2.2.2.2.2.2.2.2.2.2.2.2.2.2.1, x.2.2.2.2.2.2.2.2.2.2.2.2.2.2.2.2.1, x.2.2.2.2.2.2.2.2.2.2.2.2.2.2.2.2.2.1, x.2.2.2.2.2.2.2.2.2.2.2.2.2.2.2.2.2.2.1, x.2.2.2.2.2.2.2.2.2.2.2.2.2.2.2.2.2.2.2.1, x.2.2.2.2.2.2.2.2.2.2.2.2.2.2.2.2.2.2.2.2.1, x.2.2.2.2.2.2.2.2.2.2.2.2.2.2.2.2.2.2.2.2.2.1, (Option.getD (x.2.2.2.2.2.2.2.2.2.2.2.2.2.2.2.2.2.2.2.2.2.2.1 : Option (List cdK2.ty)) []).map asK2C, (Option.getD (x.2.2.2.2.2.2.2.2.2.2.2.2.2.2.2.2.2.2.2.2.2.2.2 : Option (List cdHe.ty)) []).map asHe⟩
theorem rel_st {I : Imm} (cs : List Value) (x : cdSt.ty) (h : cdSt.T.rel I cs x) : ∃ v, cs = (asSt x).cs v ∧ StL I (asSt x) v := by
  obtain ⟨a0, b0, rfl, rfl, a1, b1, rfl, rfl, a2, b2, rfl, rfl, a3, b3, rfl, rfl, a4, b4, rfl, rfl, a5, b5, rfl, rfl, a6, b6, rfl, rfl, a7, b7, rfl, rfl, a8, b8, rfl, h8, a9, b9, rfl, h9, a10, b10, rfl, h10, a11, b11, rfl, h11, a12, b12, rfl, h12, a13, b13, rfl, h13, a14, b14, rfl, h14, a15, b15, rfl, rfl, a16, b16, rfl, rfl, a17, b17, rfl, rfl, a18, b18, rfl, rfl, a19, b19, rfl, rfl, a20, b20, rfl, rfl, a21, b21, rfl, rfl, a22, b22, rfl, h22, h23⟩ := h
  obtain ⟨s8, rfl, g8⟩ := nsl_mapC (t' := tStr) (fun x : Bs => x) rfl rel_strC h8
  obtain ⟨s9, rfl, g9⟩ := nsl_mapC (t' := tStr) (fun x : Bs => x) rfl rel_strC h9
  obtain ⟨s10, rfl, g10⟩ := nsl_mapC (t' := tStr) (fun x : Bs => x) rfl rel_strC h10
  obtain ⟨s11, rfl, g11⟩ := nsl_mapC (t' := tStr) (fun x : Bs => x) rfl rel_strC h11
  obtain ⟨s12, rfl, g12⟩ := nsl_mapC (t' := tStr) (fun x : Bs => x) rfl rel_strC h12
  obtain ⟨s13, rfl, g13⟩ := nsl_mapC (t' := tStr) (fun x : Bs => x) rfl rel_strC h13
  obtain ⟨s14, rfl, g14⟩ := nsl_mapC (t' := tStr) (fun x : Bs => x) rfl rel_strC h14
  obtain ⟨s22, rfl, g22⟩ := nsl_mapC (t := cdK2.T) (t' := tK2) asK2C rfl (fun cs x h => rel_k2C cs x h) h22
  obtain ⟨s23, rfl, g23⟩ := nsl_mapC (t := cdHe.T) (t' := tHe) asHe rfl rel_he h23
  exact ⟨⟨s8, s9, s10, s11, s12, s13, s14, s22, s23⟩, rfl, g8, g9, g10, g11, g12, g13, g14, g22, g23⟩
def asCf (x : cdCf.ty) : Cf := ⟨x.1, x.2.1, x.2.2.1, x.2.2.2.1, x.2.2.2.2.1, x.2.2.2.2.2.1, x.2.2.2.2.2.2.1, x.2.2.2.2.2.2.2.1, (Option.getD (x.2.2.2.2.2.2.2.2.1 : Option (List cdHi.ty)) []).map asHi, x.2.2.2.2.2.2.2.2.2.1, (Option.getD (x.2.2.2.2.2.2.2.2.2.2.1 : Option (List cdK2.ty)) []).map asK2C, asSt x.2.2.2.2.2.2.2.2.2.2.2.1, asTxC x.2.2.2.2.2.2.2.2.2.2.2.2⟩
theorem Val.cf {I : Imm} {v0 : Value} {x : cdCf.ty} (h : Val cdCf I v0 x) : ∃ v, v0 = .agg ((asCf x).cs v).toArray ∧ CfL I (asCf x) v := by
  obtain ⟨cs, rfl, h⟩ := h
  obtain ⟨a0, b0, rfl, rfl, a1, b1, rfl, rfl, a2, b2, rfl, rfl, a3, b3, rfl, rfl, a4, b4, rfl, rfl, a5, b5, rfl, rfl, a6, b6, rfl, rfl, a7, b7, rfl, rfl, a8, b8, rfl, h8, a9, b9, rfl, rfl, a10, b10, rfl, h10, a11, b11, rfl, h11, h12⟩ := h
  obtain ⟨s8, rfl, g8⟩ := nsl_mapC (t := cdHi.T) (t' := tHi) asHi rfl rel_hi h8
  obtain ⟨s10, rfl, g10⟩ := nsl_mapC (t := cdK2.T) (t' := tK2) asK2C rfl (fun cs x h => rel_k2C cs x h) h10
  obtain ⟨s11, rfl, g11⟩ := rel_st _ _ h11
  obtain ⟨s12, rfl, g12⟩ := nsl_mapC (t' := tStr) (fun x : Bs => x) rfl rel_strC h12
  exact ⟨⟨s8, s10, s11, s12⟩, rfl, g8, g10, g11, g12⟩
theorem Cd.le1 (c r : Cd) (x : c.ty × r.ty) : c.wt x.1 ≤ (Cd.pair c r).wt x := Nat.le_add_right _ _
theorem Cd.le2 (c r : Cd) (x : c.ty × r.ty) : r.wt x.2 ≤ (Cd.pair c r).wt x := Nat.le_add_left _ _
theorem wt_cf (x : cdCf.ty) : (((asCf x).st.hc).flatMap fun h => h.test).length ≤ cdCf.wt x := by
  have h0 := wt_hes (Option.getD (x.2.2.2.2.2.2.2.2.2.2.2.1.2.2.2.2.2.2.2.2.2.2.2.2.2.2.2.2.2.2.2.2.2.2.2 : Option (List cdHe.ty)) [])
  have h1 : (((asCf x).st.hc).flatMap fun h => h.test).length ≤ Cd.wt (.nsl cdHe) (x.2.2.2.2.2.2.2.2.2.2.2.1.2.2.2.2.2.2.2.2.2.2.2.2.2.2.2.2.2.2.2.2.2.2.2) := Nat.le_trans h0 (Nat.le_succ _)
  exact (Nat.le_trans (Nat.le_trans (Nat.le_trans (Nat.le_trans (Nat.le_trans (Nat.le_trans (Nat.le_trans (Nat.le_trans (Nat.le_trans (Nat.le_trans (Nat.le_trans (Nat.le_trans (Nat.le_trans (Nat.le_trans (Nat.le_trans (Nat.le_trans (Nat.le_trans (Nat.le_trans (Nat.le_trans (Nat.le_trans (Nat.le_trans (Nat.le_trans (Nat.le_trans (Nat.le_trans (Nat.le_trans (Nat.le_trans (Nat.le_trans (Nat.le_trans (Nat.le_trans (Nat.le_trans (Nat.le_trans (Nat.le_trans (Nat.le_trans (Nat.le_trans (Nat.le_trans h1 (Cd.le2 _ _ (x.2.2.2.2.2.2.2.2.2.2.2.1.2.2.2.2.2.2.2.2.2.2.2.2.2.2.2.2.2.2.2.2.2.2))) (Cd.le2 _ _ (x.2.2.2.2.2.2.2.2.2.2.2.1.2.2.2.2.2.2.2.2.2.2.2.2.2.2.2.2.2.2.2.2.2))) (Cd.le2 _ _ (x.2.2.2.2.2.2.2.2.2.2.2.1.2.2.2.2.2.2.2.2.2.2.2.2.2.2.2.2.2.2.2.2))) (Cd.le2 _ _ (x.2.2.2.2.2.2.2.2.2.2.2.1.2.2.2.2.2.2.2.2.2.2.2.2.2.2.2.2.2.2.2))) (Cd.le2 _ _ (x.2.2.2.2.2.2.2.2.2.2.2.1.2.2.2.2.2.2.2.2.2.2.2.2.2.2.2.2.2.2))) (Cd.le2 _ _ (x.2.2.2.2.2.2.2.2.2.2.2.1.2.2.2.2.2.2.2.2.2.2.2.2.2.2.2.2.2))) (Cd.le2 _ _ (x.2.2.2.2.2.2.2.2.2.2.2.1.2.2.2.2.2.2.2.2.2.2.2.2.2.2.2.2))) (Cd.le2 _ _ (x.2.2.2.2.2.2.2.2.2.2.2.1.2.2.2.2.2.2.2.2.2.2.2.2.2.2.2))) (Cd.le2 _ _ (x.2.2.2.2.2.2.2.2.2.2.2.1.2.2.2.2.2.2.2.2.2.2.2.2.2.2))) (Cd.le2 _ _ (x.2.2.2.2.2.2.2.2.2.2.2.1.2.2.2.2.2.2.2.2.2.2.2.2.2))) (Cd.le2 _ _ (x.2.2.2.2.2.2.2.2.2.2.2.1.2.2.2.2.2.2.2.2.2.2.2.2))) (Cd.le2 _ _ (x.2.2.2.2.2.2.2.2.2.2.2.1.2.2.2.2.2.2.2.2.2.2.2))) (Cd.le2 _ _ (x.2.2.2.2.2.2.2.2.2.2.2.1.2.2.2.2.2.2.2.2.2.2))) (Cd.le2 _ _ (x.2.2.2.2.2.2.2.2.2.2.2.1.2.2.2.2.2.2.2.2.2))) (Cd.le2 _ _ (x.2.2.2.2.2.2.2.2.2.2.2.1.2.2.2.2.2.2.2.2))) (Cd.le2 _ _ (x.2.2.2.2.2.2.2.2.2.2.2.1.2.2.2.2.2.2.2))) (Cd.le2 _ _ (x.2.2.2.2.2.2.2.2.2.2.2.1.2.2.2.2.2.2))) (Cd.le2 _ _ (x.2.2.2.2.2.2.2.2.2.2.2.1.2.2.2.2.2))) (Cd.le2 _ _ (x.2.2.2.2.2.2.2.2.2.2.2.1.2.2.2.2))) (Cd.le2 _ _ (x.2.2.2.2.2.2.2.2.2.2.2.1.2.2.2))) (Cd.le2 _ _ (x.2.2.2.2.2.2.2.2.2.2.2.1.2.2))) (Cd.le2 _ _ (x.2.2.2.2.2.2.2.2.2.2.2.1.2))) (Cd.le2 _ _ (x.2.2.2.2.2.2.2.2.2.2.2.1))) (Cd.le1 cdSt (.nsl .str) (x.2.2.2.2.2.2.2.2.2.2.2))) (Cd.le2 _ _ (x.2.2.2.2.2.2.2.2.2.2))) (Cd.le2 _ _ (x.2.2.2.2.2.2.2.2.2))) (Cd.le2 _ _ (x.2.2.2.2.2.2.2.2))) (Cd.le2 _ _ (x.2.2.2.2.2.2.2))) (Cd.le2 _ _ (x.2.2.2.2.2.2))) (Cd.le2 _ _ (x.2.2.2.2.2))) (Cd.le2 _ _ (x.2.2.2.2))) (Cd.le2 _ _ (x.2.2.2))) (Cd.le2 _ _ (x.2.2))) (Cd.le2 _ _ (x.2))) (Cd.le2 _ _ (x)))
end Go.V
namespace Go.V
open Go.Proofs.Tryz
open Go.RowKit Go.ChangeShapes Go.Proofs
set_option linter.unusedVariables false
set_option maxRecDepth 100000
theorem at_cell {W : World} {b off : Nat} {v : Value} (h : W.cell? ⟨b, off, none⟩ = some v) : At (whole W) b off [v] :=
  (at_whole (a := ⟨b, off, none⟩) (by simp) (fun j u hj => by
    cases j with
    | zero => simp at hj; subst hj; simpa [Addr.add] using h
    | succ j => simp at hj)).2
theorem u8extra : U8Extra prog ren196 := ⟨by kernel_rfl, by kernel_rfl, by kernel_rfl, by kernel_rfl, by kernel_rfl, by kernel_rfl, by kernel_rfl⟩
theorem UT.ofLaid {W : World} {l : List (String × DataW Unit)} (h : laidMetH prog l W) (hp : (l.all fun x => x.2.handleName?.isNone) = true)
    (h1 : ("unicode/utf8.first", Lib.firstData) ∈ l) (h2 : ("unicode/utf8.acceptRanges", Lib.acceptData) ∈ l) : UT (whole W) := by
  rw [MakeChecks.laidMetH_plain _ _ _ hp] at h
  have hT : Lib.Utf8Tabs 0 1 W := utf8Tabs_of_readsT (ρ := ren196) (U8Types.of196 lays196) u8extra (Lib.laidMet.reads h h1) (Lib.laidMet.reads h h2)
  exact ⟨fun c hc => at_cell (hT.1 c hc), fun i hi => ⟨at_cell (hT.2 i hi).1, at_cell (hT.2 i hi).2⟩⟩
end Go.V
namespace Go.V
open Go.Proofs.Tryz
open Go.RowKit
set_option linter.unusedVariables false
set_option linter.unusedSimpArgs false
set_option maxRecDepth 10000
attribute [local irreducible] Run Ops
set_option maxHeartbeats 4000000 in
theorem laws_FnConfigPlatform (I : Imm) (v0 : Value) (x : cdCf.ty) (h0 : Val cdCf I v0 x) (k0 : cdCf.ok x) (hw : cdCf.wt x ≤ 1048576) (hU : UT I) (a0 : Addr) (hE : At I 2 0 [eofV a0]) :
    Pure prog 8 [v0] I fun v _ => v = .bool true := by
  obtain ⟨v, rfl, hL⟩ := h0.cf
  have hsum : (eTexts (asCf x).st.hc).length ≤ 1048576 := Nat.le_trans (wt_cf x) hw
  generalize asCf x = c at *
  clear h0 k0 hw
  refine Spec.enter 47 [(0, _)] func8 rfl ntmps8 (by simp) rfl ?_
  intro C hCf hR hCI
  repeat (first | refine Run.seq ?_ | refine Run.region ?_)
  refine Ops.box rfl (by decide) rfl rfl (fun b1 => ?_)
  repeat (first | refine Run.seq ?_ | refine Run.region ?_ | refine Ops.nil ?_ | refine Ops.pure T rfl (by decide) rfl ?_ | refine Ops.loadN 0 rfl (by decide) rfl rfl (T.aggOk rfl) (T.sizeOk rfl) rfl rfl ?_)
  refine Ops.call ((laws_zzFits15 I c v hL)) rfl (by decide) call11 rfl ?_
  rintro _ J1 l1 ⟨q, rfl, hf⟩
  cases q with
  | false =>
    repeat (first | refine Run.seq ?_ | refine Run.region ?_ | refine Ops.nil ?_ | refine Run.cond_t rfl ?_ | refine Ops.pure T rfl (by decide) rfl ?_)
    refine Run.fin (Run.ret1 (by rw [hCf]; exact func8) results8 rfl (hR _ _ _ ?_))
    exact ⟨rfl, rfl⟩
  | true =>
  have hfit := hf rfl
  repeat (first | refine Run.seq ?_ | refine Run.region ?_ | refine Ops.nil ?_ | refine Run.skip ?_ | refine Run.cond_f rfl ?_ | refine Ops.pure T rfl (by decide) rfl ?_ | refine Ops.loadN 0 rfl (by decide) rfl rfl (T.aggOk rfl) (T.sizeOk rfl) rfl rfl ?_)
  refine Ops.call ((laws_configGood J1 (hU.mono l1) c v (hL.mono l1) hfit hsum)) rfl (by decide) call12 rfl ?_
  rintro _ J2 l2 ⟨r, rfl, hg⟩
  have hU2 := hU.mono (l1.trans l2)
  have hE2 := hE.mono (l1.trans l2)
  have hL2 := hL.mono (l1.trans l2)
  cases r with
  | false =>
    repeat (first | refine Run.seq ?_ | refine Run.region ?_ | refine Ops.nil ?_ | refine Run.cond_t rfl ?_ | refine Ops.pure T rfl (by decide) rfl ?_)
    refine Ops.call ((configAwake J2 (hU2) a0 (hE2))) rfl (by decide) call13 rfl ?_
    rintro _ J9 l9 rfl
    repeat (first | refine Ops.nil ?_ | refine Ops.pure T rfl (by decide) rfl ?_)
    refine Run.fin (Run.ret1 (by rw [hCf]; exact func8) results8 rfl (hR _ _ _ ?_))
    exact ⟨rfl, rfl⟩
  | true =>
  repeat (first | refine Run.seq ?_ | refine Run.region ?_ | refine Ops.nil ?_ | refine Run.skip ?_ | refine Run.cond_f rfl ?_ | refine Ops.pure T rfl (by decide) rfl ?_ | refine Ops.loadN 0 rfl (by decide) rfl rfl (T.aggOk rfl) (T.sizeOk rfl) rfl rfl ?_)
  refine Ops.call ((impl_ConfigPlatform J2 c v hL2 hfit)) rfl (by decide) call27 rfl ?_
  rintro _ J3 l3 hp
  have hU3 := hU2.mono l3
  have hE3 := hE2.mono l3
  have hfe := hL2.2.2.2
  have hfl : c.feat.length ≤ 2147483647 := hfit.2.2.2.2.1
  rcases hp with ⟨rfl, ho, ha⟩ | ⟨A, a, z, hS, rfl⟩
  · skip
    repeat (first | refine Ops.pure T rfl (by decide) rfl ?_)
    refine Ops.alloc rfl (by decide) (T.zeroOk rfl) rfl (fun b3 => ?_)
    repeat (first | refine Run.seq ?_ | refine Run.region ?_ | refine Ops.nil ?_ | refine Ops.eqlStr rfl (by decide) rfl rfl ?_ | refine Ops.pure T rfl (by decide) rfl ?_ | refine Ops.load 1 rfl (by decide) rfl rfl (T.aggOk rfl) rfl ?_ | refine Ops.store 0 rfl rfl rfl rfl rfl (T.sizeOk rfl) rfl (Nat.le_of_ble_eq_true rfl) rfl rfl ?_)
    cases hb1 : decide (c.os = []) with
    | false => exact absurd ho (of_decide_eq_false hb1)
    | true =>
    repeat (first | refine Ops.nil ?_ | refine Ops.eqlStr rfl (by decide) rfl rfl ?_ | refine Ops.pure T rfl (by decide) rfl ?_ | refine Ops.load 1 rfl (by decide) rfl rfl (T.aggOk rfl) rfl ?_)
    cases hb2 : decide (c.arch = []) with
    | false => exact absurd ha (of_decide_eq_false hb2)
    | true =>
    repeat (first | refine Run.seq ?_ | refine Run.region ?_ | refine Run.cond_t rfl ?_)
    refine Ops.call ((configAwake J3 (hU3) a0 (hE3))) rfl (by decide) call13 rfl ?_
    rintro _ J9 l9 rfl
    repeat (first | refine Ops.nil ?_ | refine Ops.pure T rfl (by decide) rfl ?_)
    refine Run.fin (Run.ret1 (by rw [hCf]; exact func8) results8 rfl (hR _ _ _ ?_))
    exact ⟨rfl, rfl⟩
  · skip
    repeat (first | refine Ops.pure T rfl (by decide) rfl ?_)
    refine Ops.alloc rfl (by decide) (T.zeroOk rfl) rfl (fun b3 => ?_)
    repeat (first | refine Run.seq ?_ | refine Run.region ?_ | refine Ops.nil ?_ | refine Ops.eqlStr rfl (by decide) rfl rfl ?_ | refine Ops.pure T rfl (by decide) rfl ?_ | refine Ops.load 1 rfl (by decide) rfl rfl (T.aggOk rfl) rfl ?_ | refine Ops.store 0 rfl rfl rfl rfl rfl (T.sizeOk rfl) rfl (Nat.le_of_ble_eq_true rfl) rfl rfl ?_)
    cases hb1 : decide (c.os = []) with
    | true =>
      repeat (first | refine Ops.nil ?_ | refine Ops.eqlStr rfl (by decide) rfl rfl ?_ | refine Ops.pure T rfl (by decide) rfl ?_ | refine Ops.load 1 rfl (by decide) rfl rfl (T.aggOk rfl) rfl ?_)
      cases hb2 : decide (c.arch = []) with
      | true =>
        repeat (first | refine Run.seq ?_ | refine Run.region ?_ | refine Run.cond_t rfl ?_)
        refine Ops.call ((configAwake J3 (hU3) a0 (hE3))) rfl (by decide) call13 rfl ?_
        rintro _ J9 l9 rfl
        repeat (first | refine Ops.nil ?_ | refine Ops.pure T rfl (by decide) rfl ?_)
        refine Run.fin (Run.ret1 (by rw [hCf]; exact func8) results8 rfl (hR _ _ _ ?_))
        exact ⟨rfl, rfl⟩
      | false =>
        repeat (first | refine Run.seq ?_ | refine Run.region ?_ | refine Run.skip ?_ | refine Run.cond_f rfl ?_ | refine Ops.pure T rfl (by decide) rfl ?_ | refine Ops.load 1 rfl (by decide) rfl rfl (T.aggOk rfl) rfl ?_)
        refine Ops.buildL bd64 rfl (by decide) rfl rfl ?_
        refine Ops.alloc rfl (by decide) (T.zeroOk rfl) rfl (fun b5 => ?_)
        repeat (first | refine Run.seq ?_ | refine Run.region ?_ | refine Ops.nil ?_ | refine Ops.pure T rfl (by decide) rfl ?_ | refine Ops.loadN 0 rfl (by decide) rfl rfl (T.aggOk rfl) (T.sizeOk rfl) rfl rfl ?_ | refine Ops.loadN 1 rfl (by decide) rfl rfl (T.aggOk rfl) (T.sizeOk rfl) rfl rfl ?_ | refine Ops.store 0 rfl rfl rfl rfl rfl (T.sizeOk rfl) rfl (Nat.le_of_ble_eq_true rfl) rfl rfl ?_)
        refine Ops.call ((laws_samePlatform c.pf c.pf c.feat [] c.feat [] _ _ _ _ J3 hS (Sl.nil _ _) (hfe.mono l3) (Sl.nil _ _) hfl (by simp) rfl rfl)) rfl (by decide) call28 rfl ?_
        rintro _ J4 l4 hsp
        rw [decide_eq_true ⟨rfl, rfl, rfl⟩] at hsp
        subst hsp
        repeat (first | refine Ops.pure T rfl (by decide) rfl ?_)
        refine Ops.call ((configAwake J4 (hU3.mono l4) a0 (hE3.mono l4))) rfl (by decide) call13 rfl ?_
        rintro _ J9 l9 rfl
        repeat (first | refine Ops.nil ?_ | refine Ops.pure T rfl (by decide) rfl ?_)
        refine Run.fin (Run.ret1 (by rw [hCf]; exact func8) results8 rfl (hR _ _ _ ?_))
        exact ⟨rfl, rfl⟩
    | false =>
      repeat (first | refine Run.seq ?_ | refine Run.region ?_ | refine Ops.nil ?_ | refine Run.skip ?_ | refine Run.cond_f rfl ?_ | refine Ops.not rfl (by decide) ?_ | refine Ops.pure T rfl (by decide) rfl ?_ | refine Ops.load 1 rfl (by decide) rfl rfl (T.aggOk rfl) rfl ?_)
      refine Ops.buildL bd64 rfl (by decide) rfl rfl ?_
      refine Ops.alloc rfl (by decide) (T.zeroOk rfl) rfl (fun b5 => ?_)
      repeat (first | refine Run.seq ?_ | refine Run.region ?_ | refine Ops.nil ?_ | refine Ops.pure T rfl (by decide) rfl ?_ | refine Ops.loadN 0 rfl (by decide) rfl rfl (T.aggOk rfl) (T.sizeOk rfl) rfl rfl ?_ | refine Ops.loadN 1 rfl (by decide) rfl rfl (T.aggOk rfl) (T.sizeOk rfl) rfl rfl ?_ | refine Ops.store 0 rfl rfl rfl rfl rfl (T.sizeOk rfl) rfl (Nat.le_of_ble_eq_true rfl) rfl rfl ?_)
      refine Ops.call ((laws_samePlatform c.pf c.pf c.feat [] c.feat [] _ _ _ _ J3 hS (Sl.nil _ _) (hfe.mono l3) (Sl.nil _ _) hfl (by simp) rfl rfl)) rfl (by decide) call28 rfl ?_
      rintro _ J4 l4 hsp
      rw [decide_eq_true ⟨rfl, rfl, rfl⟩] at hsp
      subst hsp
      repeat (first | refine Ops.pure T rfl (by decide) rfl ?_)
      refine Ops.call ((configAwake J4 (hU3.mono l4) a0 (hE3.mono l4))) rfl (by decide) call13 rfl ?_
      rintro _ J9 l9 rfl
      repeat (first | refine Ops.nil ?_ | refine Ops.pure T rfl (by decide) rfl ?_)
      refine Run.fin (Run.ret1 (by rw [hCf]; exact func8) results8 rfl (hR _ _ _ ?_))
      exact ⟨rfl, rfl⟩
end Go.V
