import Derived.Test.YtbalfblfkfbejaaGreatDoorWM4
import Derived.Test.YtbalfblfkfbejaaGreatDoorWM2
namespace Go.V
open Go.Proofs.Tryz
open Go.RowKit
set_option linter.unusedVariables false
set_option linter.unusedSimpArgs false
set_option maxRecDepth 10000
attribute [local irreducible] Run Ops
structure SlV where
  A : Option Addr
  n : Nat
  c : Nat
def SlV.v (s : SlV) : Value := .slice s.A s.n s.c
structure Hi where
  author : List UInt8
  by_ : List UInt8
  comment : List UInt8
  created : Int
  empty : Bool
def Hi.cs (h : Hi) : List Value := [str h.author, str h.by_, str h.comment, .int .i64 h.created, .bool h.empty]
def tHi : Ty Hi := ⟨5, fun _ cs x => cs = x.cs, fun h => by subst h; rfl, fun h _ => h⟩
def fitHi (h : Hi) : Prop := h.author.length ≤ 2147483647 ∧ h.by_.length ≤ 2147483647 ∧ h.comment.length ≤ 2147483647
structure He where
  test : Txts
  iv : Int
  to_ : Int
  sp : Int
  rt : Int
def He.cs (h : He) (v : Value) : List Value := [v, .int .i64 h.iv, .int .i64 h.to_, .int .i64 h.sp, .int .i64 h.rt]
def tHe : Ty He := ⟨5, fun I cs x => ∃ A a, cs = x.cs (.slice A x.test.length a) ∧ Sl tStr I (.slice A x.test.length a) x.test, fun h => by obtain ⟨A, a, h, _⟩ := h; subst h; rfl, fun h hle => by obtain ⟨A, a, h, h1⟩ := h; exact ⟨A, a, h, h1.mono hle⟩⟩
def fitHe (h : He) : Prop := fitL h.test
theorem laws_zzFits11 (I : Imm) (h : Hi) : Pure prog 76 [.agg h.cs.toArray] I fun w J => ∃ r, w = .bool r ∧ (r = true → fitHi h) := by
  obtain ⟨author, by_, comment, created, empty⟩ := h
  refine Spec.enter 15 [(0, _)] func76 rfl ntmps76 (by simp) rfl ?_
  intro C hCf hR hCI
  repeat (first | refine Run.seq ?_ | refine Run.region ?_)
  refine Ops.box rfl (by decide) rfl rfl (fun b => ?_)
  repeat (first | refine Run.seq ?_ | refine Run.region ?_ | refine Ops.nil ?_ | refine Ops.gtr rfl (by decide) rfl rfl ?_ | refine Ops.pure T rfl (by decide) rfl ?_ | refine Ops.lenS T rfl (by decide) rfl rfl ?_ | refine Ops.load 0 rfl (by decide) rfl rfl (T.aggOk rfl) rfl ?_)
  refine Run.cond rfl rfl (fun h1 => ?_) (fun h1 => ?_)
  all_goals (try rw [h1])
  all_goals (try simp only [decide_eq_true_eq, decide_eq_false_iff_not, Bool.not_eq_true', Bool.not_eq_false', Bool.and_eq_true, Bool.or_eq_true, Bool.and_eq_false_imp, Bool.or_eq_false_iff] at h1)
  · skip
    repeat (first | refine Run.seq ?_ | refine Run.region ?_ | refine Ops.nil ?_ | refine Ops.pure T rfl (by decide) rfl ?_)
    refine Run.fin (Run.ret1 (by rw [hCf]; exact func76) results76 rfl (hR _ _ _ ?_))
    exact ⟨rfl, false, rfl, by simp⟩
  repeat (first | refine Run.seq ?_ | refine Run.region ?_ | refine Ops.nil ?_ | refine Run.skip ?_ | refine Ops.gtr rfl (by decide) rfl rfl ?_ | refine Ops.pure T rfl (by decide) rfl ?_ | refine Ops.lenS T rfl (by decide) rfl rfl ?_ | refine Ops.load 0 rfl (by decide) rfl rfl (T.aggOk rfl) rfl ?_)
  refine Run.cond rfl rfl (fun h2 => ?_) (fun h2 => ?_)
  all_goals (try rw [h2])
  all_goals (try simp only [decide_eq_true_eq, decide_eq_false_iff_not, Bool.not_eq_true', Bool.not_eq_false', Bool.and_eq_true, Bool.or_eq_true, Bool.and_eq_false_imp, Bool.or_eq_false_iff] at h2)
  · skip
    repeat (first | refine Run.seq ?_ | refine Run.region ?_ | refine Ops.nil ?_ | refine Ops.pure T rfl (by decide) rfl ?_)
    refine Run.fin (Run.ret1 (by rw [hCf]; exact func76) results76 rfl (hR _ _ _ ?_))
    exact ⟨rfl, false, rfl, by simp⟩
  repeat (first | refine Run.seq ?_ | refine Run.region ?_ | refine Ops.nil ?_ | refine Run.skip ?_ | refine Ops.gtr rfl (by decide) rfl rfl ?_ | refine Ops.pure T rfl (by decide) rfl ?_ | refine Ops.lenS T rfl (by decide) rfl rfl ?_ | refine Ops.load 0 rfl (by decide) rfl rfl (T.aggOk rfl) rfl ?_)
  refine Run.cond rfl rfl (fun h3 => ?_) (fun h3 => ?_)
  all_goals (try rw [h3])
  all_goals (try simp only [decide_eq_true_eq, decide_eq_false_iff_not, Bool.not_eq_true', Bool.not_eq_false', Bool.and_eq_true, Bool.or_eq_true, Bool.and_eq_false_imp, Bool.or_eq_false_iff] at h3)
  · skip
    repeat (first | refine Run.seq ?_ | refine Run.region ?_ | refine Ops.nil ?_ | refine Ops.pure T rfl (by decide) rfl ?_)
    refine Run.fin (Run.ret1 (by rw [hCf]; exact func76) results76 rfl (hR _ _ _ ?_))
    exact ⟨rfl, false, rfl, by simp⟩
  repeat (first | refine Run.seq ?_ | refine Run.region ?_ | refine Ops.nil ?_ | refine Run.skip ?_ | refine Ops.pure T rfl (by decide) rfl ?_)
  refine Run.fin (Run.ret1 (by rw [hCf]; exact func76) results76 rfl (hR _ _ _ ?_))
  exact ⟨rfl, true, rfl, fun _ => ⟨by simp only; omega, by simp only; omega, by simp only; omega⟩⟩
theorem laws_zzFits21 (I : Imm) (h : He) (A : Option Addr) (n c : Nat) (hS : Sl tStr I (.slice A n c) h.test) : Pure prog 114 [.agg (h.cs (.slice A n c)).toArray] I fun w J => ∃ r, w = .bool r ∧ (r = true → fitHe h) := by
  obtain ⟨test, iv, to_, sp, rt⟩ := h
  simp only at hS
  refine Spec.enter 7 [(0, _)] func114 rfl ntmps114 (by simp) rfl ?_
  intro C hCf hR hCI
  repeat (first | refine Run.seq ?_ | refine Run.region ?_)
  refine Ops.box rfl (by decide) rfl rfl (fun b => ?_)
  repeat (first | refine Run.seq ?_ | refine Run.region ?_ | refine Ops.nil ?_ | refine Ops.pure T rfl (by decide) rfl ?_ | refine Ops.load 0 rfl (by decide) rfl rfl (T.aggOk rfl) rfl ?_)
  refine Ops.call ((laws_zzFits12 I test _ hS)) rfl (by decide) call34 rfl ?_
  rintro _ J0 l0 ⟨r0, rfl, g0⟩
  repeat (first | refine Ops.nil ?_ | refine Ops.pure T rfl (by decide) rfl ?_)
  cases r0 with
  | false =>
    repeat (first | refine Run.seq ?_ | refine Run.region ?_ | refine Ops.nil ?_ | refine Run.cond_t rfl ?_ | refine Ops.pure T rfl (by decide) rfl ?_)
    refine Run.fin (Run.ret1 (by rw [hCf]; exact func114) results114 rfl (hR _ _ _ ?_))
    exact ⟨rfl, false, rfl, by simp⟩
  | true =>
  repeat (first | refine Run.seq ?_ | refine Run.region ?_ | refine Ops.nil ?_ | refine Run.skip ?_ | refine Run.cond_f rfl ?_ | refine Ops.pure T rfl (by decide) rfl ?_)
  refine Run.fin (Run.ret1 (by rw [hCf]; exact func114) results114 rfl (hR _ _ _ ?_))
  exact ⟨rfl, true, rfl, fun _ => g0 rfl⟩
theorem laws_zzFits16 (I : Imm) (xs : List Hi) (v : Value) (hS : Sl tHi I v xs) : Pure prog 31 [v] I fun w J => ∃ r, w = .bool r ∧ (r = true → xs.length ≤ 2147483647 ∧ ∀ x ∈ xs, fitHi x) := by
  refine Spec.enter 18 [(0, _)] func31 rfl ntmps31 (by simp) rfl ?_
  intro C hCf hR hCI
  repeat (first | refine Run.seq ?_ | refine Run.region ?_ | refine Ops.nil ?_ | refine Ops.pure T rfl (by decide) rfl ?_)
  refine Ops.lenSl (hS) rfl (by decide) rfl (T.undOk rfl) ?_
  repeat (first | refine Ops.nil ?_ | refine Ops.gtr rfl (by decide) rfl rfl ?_)
  refine Run.cond rfl rfl (fun h => ?_) (fun h => ?_)
  all_goals (try rw [h])
  all_goals (try simp only [decide_eq_true_eq, decide_eq_false_iff_not, Bool.not_eq_true', Bool.not_eq_false', Bool.and_eq_true, Bool.or_eq_true, Bool.and_eq_false_imp, Bool.or_eq_false_iff] at h)
  · skip
    repeat (first | refine Run.seq ?_ | refine Run.region ?_ | refine Ops.nil ?_ | refine Ops.pure T rfl (by decide) rfl ?_)
    refine Run.fin (Run.ret1 (by rw [hCf]; exact func31) results31 rfl (hR _ _ _ ?_))
    exact ⟨rfl, false, rfl, by simp⟩
  repeat (first | refine Run.seq ?_ | refine Run.region ?_ | refine Run.skip ?_ | refine Ops.pure T rfl (by decide) rfl ?_)
  refine Ops.lenSl (hS) rfl (by decide) rfl (T.undOk rfl) ?_
  repeat (first | refine Ops.nil ?_ | refine Run.block ?_ | refine Ops.pure T rfl (by decide) rfl ?_)
  refine Run.keep [8, 9, 10] [_, _, _] rfl ?_
  refine Run.rounds (fun m env L J => ∃ i : Nat, m = xs.length - i ∧ i ≤ xs.length ∧ (∀ x ∈ xs.take i, fitHi x) ∧ env = [(8, v), (9, .int .i64 xs.length), (10, .int .i64 i)] ∧ L = [] ∧ Le I J) xs.length ⟨0, by omega, by omega, by simp, rfl, rfl, Le.refl _⟩ ?_
  rintro m env L J ⟨i, rfl, hi, hall, rfl, rfl, hle⟩ ih
  repeat (first | refine Run.seq ?_ | refine Run.region ?_ | refine Ops.nil ?_ | refine Ops.lss rfl (by decide) rfl rfl ?_)
  refine Run.cond rfl rfl (fun h2 => ?_) (fun h2 => ?_)
  all_goals (try rw [h2])
  all_goals (try simp only [decide_eq_true_eq, decide_eq_false_iff_not, Bool.not_eq_true', Bool.not_eq_false', Bool.and_eq_true, Bool.or_eq_true, Bool.and_eq_false_imp, Bool.or_eq_false_iff] at h2)
  · skip
    repeat (first | refine Run.seq ?_ | refine Run.region ?_ | refine Run.skip ?_ | refine Run.block ?_)
    refine Ops.indexSl (hS.mono hle) rfl (by decide) rfl rfl (T.undOk rfl) (T.sizeOk rfl) (by omega) (by omega) ?_
    rintro b_ off_ x cs_ hx hr_ hA_
    skip
    subst hr_
    refine Ops.loadIN rfl (by decide) rfl (hA_) (T.aggOk rfl) (T.sizeOk rfl) rfl ?_
    refine Ops.alloc rfl (by decide) (T.zeroOk rfl) rfl (fun b2 => ?_)
    repeat (first | refine Run.seq ?_ | refine Run.region ?_ | refine Ops.nil ?_ | refine Ops.loadN 0 rfl (by decide) rfl rfl (T.aggOk rfl) (T.sizeOk rfl) rfl rfl ?_ | refine Ops.store 0 rfl rfl rfl rfl rfl (T.sizeOk rfl) rfl (Nat.le_of_ble_eq_true rfl) rfl rfl ?_)
    refine Ops.call ((laws_zzFits11 J x)) rfl (by decide) call76 rfl ?_
    rintro _ J2 hle2 ⟨r, rfl, hr⟩
    repeat (first | refine Ops.nil ?_ | refine Ops.pure T rfl (by decide) rfl ?_)
    rw [Int.toNat_natCast] at hx
    cases r with
    | false =>
      repeat (first | refine Run.seq ?_ | refine Run.region ?_ | refine Ops.nil ?_ | refine Run.cond_t rfl ?_ | refine Ops.pure T rfl (by decide) rfl ?_)
      refine Run.fin (Run.ret1 (by rw [hCf]; exact func31) results31 rfl (hR _ _ _ ?_))
      exact ⟨rfl, false, rfl, by simp⟩
    | true =>
      repeat (first | refine Run.region ?_ | refine Ops.nil ?_ | refine Run.skip ?_ | refine Run.inBlock ?_ | refine Run.cond_f rfl ?_ | refine Ops.add rfl (by decide) rfl rfl (wI (by first | omega | (simp only [List.length_cons, List.length_nil] ; omega) | (simp; omega)) (by first | omega | (simp only [List.length_cons, List.length_nil] ; omega) | (simp; omega))) ?_ | refine Ops.pure T rfl (by decide) rfl ?_)
      refine Run.fin ?_
      refine Run.keep [8, 9, 10] [_, _, _] rfl ?_
      refine ih (xs.length - (i + 1)) _ _ _ (by omega) ⟨i + 1, rfl, by omega, ?_, rfl, rfl, hle.trans hle2⟩
      intro y hy
      rw [List.take_add_one, hx] at hy
      rcases List.mem_append.1 hy with hy | hy
      · exact hall y hy
      · simp at hy; subst hy; exact hr rfl
  · have : i = xs.length := by omega
    subst this
    repeat (first | refine Run.seq ?_ | refine Run.region ?_ | refine Ops.nil ?_ | refine Run.exit rfl ?_ | refine Ops.pure T rfl (by decide) rfl ?_)
    refine Run.fin (Run.ret1 (by rw [hCf]; exact func31) results31 rfl (hR _ _ _ ?_))
    exact ⟨rfl, true, rfl, fun _ => ⟨by omega, by simpa using hall⟩⟩
theorem laws_zzFits20 (I : Imm) (xs : List He) (v : Value) (hS : Sl tHe I v xs) : Pure prog 78 [v] I fun w J => ∃ r, w = .bool r ∧ (r = true → xs.length ≤ 2147483647 ∧ ∀ x ∈ xs, fitHe x) := by
  refine Spec.enter 18 [(0, _)] func78 rfl ntmps78 (by simp) rfl ?_
  intro C hCf hR hCI
  repeat (first | refine Run.seq ?_ | refine Run.region ?_ | refine Ops.nil ?_ | refine Ops.pure T rfl (by decide) rfl ?_)
  refine Ops.lenSl (hS) rfl (by decide) rfl (T.undOk rfl) ?_
  repeat (first | refine Ops.nil ?_ | refine Ops.gtr rfl (by decide) rfl rfl ?_)
  refine Run.cond rfl rfl (fun h => ?_) (fun h => ?_)
  all_goals (try rw [h])
  all_goals (try simp only [decide_eq_true_eq, decide_eq_false_iff_not, Bool.not_eq_true', Bool.not_eq_false', Bool.and_eq_true, Bool.or_eq_true, Bool.and_eq_false_imp, Bool.or_eq_false_iff] at h)
  · skip
    repeat (first | refine Run.seq ?_ | refine Run.region ?_ | refine Ops.nil ?_ | refine Ops.pure T rfl (by decide) rfl ?_)
    refine Run.fin (Run.ret1 (by rw [hCf]; exact func78) results78 rfl (hR _ _ _ ?_))
    exact ⟨rfl, false, rfl, by simp⟩
  repeat (first | refine Run.seq ?_ | refine Run.region ?_ | refine Run.skip ?_ | refine Ops.pure T rfl (by decide) rfl ?_)
  refine Ops.lenSl (hS) rfl (by decide) rfl (T.undOk rfl) ?_
  repeat (first | refine Ops.nil ?_ | refine Run.block ?_ | refine Ops.pure T rfl (by decide) rfl ?_)
  refine Run.keep [8, 9, 10] [_, _, _] rfl ?_
  refine Run.rounds (fun m env L J => ∃ i : Nat, m = xs.length - i ∧ i ≤ xs.length ∧ (∀ x ∈ xs.take i, fitHe x) ∧ env = [(8, v), (9, .int .i64 xs.length), (10, .int .i64 i)] ∧ L = [] ∧ Le I J) xs.length ⟨0, by omega, by omega, by simp, rfl, rfl, Le.refl _⟩ ?_
  rintro m env L J ⟨i, rfl, hi, hall, rfl, rfl, hle⟩ ih
  repeat (first | refine Run.seq ?_ | refine Run.region ?_ | refine Ops.nil ?_ | refine Ops.lss rfl (by decide) rfl rfl ?_)
  refine Run.cond rfl rfl (fun h2 => ?_) (fun h2 => ?_)
  all_goals (try rw [h2])
  all_goals (try simp only [decide_eq_true_eq, decide_eq_false_iff_not, Bool.not_eq_true', Bool.not_eq_false', Bool.and_eq_true, Bool.or_eq_true, Bool.and_eq_false_imp, Bool.or_eq_false_iff] at h2)
  · skip
    repeat (first | refine Run.seq ?_ | refine Run.region ?_ | refine Run.skip ?_ | refine Run.block ?_)
    refine Ops.indexSl (hS.mono hle) rfl (by decide) rfl rfl (T.undOk rfl) (T.sizeOk rfl) (by omega) (by omega) ?_
    rintro b_ off_ x cs_ hx hr_ hA_
    obtain ⟨A, a, hr_, hsl⟩ := hr_
    subst hr_
    refine Ops.loadIN rfl (by decide) rfl (hA_) (T.aggOk rfl) (T.sizeOk rfl) rfl ?_
    refine Ops.alloc rfl (by decide) (T.zeroOk rfl) rfl (fun b2 => ?_)
    repeat (first | refine Run.seq ?_ | refine Run.region ?_ | refine Ops.nil ?_ | refine Ops.loadN 0 rfl (by decide) rfl rfl (T.aggOk rfl) (T.sizeOk rfl) rfl rfl ?_ | refine Ops.store 0 rfl rfl rfl rfl rfl (T.sizeOk rfl) rfl (Nat.le_of_ble_eq_true rfl) rfl rfl ?_)
    refine Ops.call ((laws_zzFits21 J x _ _ _ hsl)) rfl (by decide) call114 rfl ?_
    rintro _ J2 hle2 ⟨r, rfl, hr⟩
    repeat (first | refine Ops.nil ?_ | refine Ops.pure T rfl (by decide) rfl ?_)
    rw [Int.toNat_natCast] at hx
    cases r with
    | false =>
      repeat (first | refine Run.seq ?_ | refine Run.region ?_ | refine Ops.nil ?_ | refine Run.cond_t rfl ?_ | refine Ops.pure T rfl (by decide) rfl ?_)
      refine Run.fin (Run.ret1 (by rw [hCf]; exact func78) results78 rfl (hR _ _ _ ?_))
      exact ⟨rfl, false, rfl, by simp⟩
    | true =>
      repeat (first | refine Run.region ?_ | refine Ops.nil ?_ | refine Run.skip ?_ | refine Run.inBlock ?_ | refine Run.cond_f rfl ?_ | refine Ops.add rfl (by decide) rfl rfl (wI (by first | omega | (simp only [List.length_cons, List.length_nil] ; omega) | (simp; omega)) (by first | omega | (simp only [List.length_cons, List.length_nil] ; omega) | (simp; omega))) ?_ | refine Ops.pure T rfl (by decide) rfl ?_)
      refine Run.fin ?_
      refine Run.keep [8, 9, 10] [_, _, _] rfl ?_
      refine ih (xs.length - (i + 1)) _ _ _ (by omega) ⟨i + 1, rfl, by omega, ?_, rfl, rfl, hle.trans hle2⟩
      intro y hy
      rw [List.take_add_one, hx] at hy
      rcases List.mem_append.1 hy with hy | hy
      · exact hall y hy
      · simp at hy; subst hy; exact hr rfl
  · have : i = xs.length := by omega
    subst this
    repeat (first | refine Run.seq ?_ | refine Run.region ?_ | refine Ops.nil ?_ | refine Run.exit rfl ?_ | refine Ops.pure T rfl (by decide) rfl ?_)
    refine Run.fin (Run.ret1 (by rw [hCf]; exact func78) results78 rfl (hR _ _ _ ?_))
    exact ⟨rfl, true, rfl, fun _ => ⟨by omega, by simpa using hall⟩⟩
end Go.V
namespace Go.V
open Go.Proofs.Tryz
open Go.RowKit
set_option linter.unusedVariables false
set_option linter.unusedSimpArgs false
set_option maxRecDepth 10000
attribute [local irreducible] Run Ops
structure St where
  (b1 b2 b3 b4 b5 b6 b7 b8 : Bool)
  (cmd entry env_ onb shell vol exp_ : Txts)
  (dom host img user dir mac stop : List UInt8)
  lab : List K2
  hc : List He
structure SV where
  (cmd entry env_ onb shell vol exp_ lab hc : SlV)
def St.cs (s : St) (v : SV) : List Value := [.bool s.b1, .bool s.b2, .bool s.b3, .bool s.b4, .bool s.b5, .bool s.b6, .bool s.b7, .bool s.b8, v.cmd.v, v.entry.v, v.env_.v, v.onb.v, v.shell.v, v.vol.v, v.exp_.v, str s.dom, str s.host, str s.img, str s.user, str s.dir, str s.mac, str s.stop, v.lab.v, v.hc.v]
def StL (I : Imm) (s : St) (v : SV) : Prop := Sl tStr I v.cmd.v s.cmd ∧ Sl tStr I v.entry.v s.entry ∧ Sl tStr I v.env_.v s.env_ ∧ Sl tStr I v.onb.v s.onb ∧ Sl tStr I v.shell.v s.shell ∧ Sl tStr I v.vol.v s.vol ∧ Sl tStr I v.exp_.v s.exp_ ∧ Sl tK2 I v.lab.v s.lab ∧ Sl tHe I v.hc.v s.hc
theorem StL.mono {I J : Imm} {s : St} {v : SV} (h : StL I s v) (l : Le I J) : StL J s v := by
  obtain ⟨h1, h2, h3, h4, h5, h6, h7, h8, h9⟩ := h
  exact ⟨h1.mono l, h2.mono l, h3.mono l, h4.mono l, h5.mono l, h6.mono l, h7.mono l, h8.mono l, h9.mono l⟩
def fitSt (s : St) : Prop := (fitL s.cmd ∧ fitL s.entry ∧ fitL s.env_ ∧ fitL s.onb ∧ fitL s.shell ∧ fitL s.vol ∧ fitL s.exp_) ∧ (s.dom.length ≤ 2147483647 ∧ s.host.length ≤ 2147483647 ∧ s.img.length ≤ 2147483647 ∧ s.user.length ≤ 2147483647 ∧ s.dir.length ≤ 2147483647 ∧ s.mac.length ≤ 2147483647 ∧ s.stop.length ≤ 2147483647) ∧
  (s.lab.length ≤ 2147483647 ∧ ∀ x ∈ s.lab, fit2 x) ∧ s.hc.length ≤ 2147483647 ∧ ∀ x ∈ s.hc, fitHe x
set_option maxHeartbeats 4000000 in
theorem laws_zzFits19 (I : Imm) (s : St) (v : SV) (hL : StL I s v) : Pure prog 33 [.agg (s.cs v).toArray] I fun w J => ∃ r, w = .bool r ∧ (r = true → fitSt s) := by
  obtain ⟨h1, h2, h3, h4, h5, h6, h7, h8, h9⟩ := hL
  obtain ⟨b1, b2, b3, b4, b5, b6, b7, b8, cmd, entry, env_, onb, shell, vol, exp_, dom, host, img, user, dir, mac, stop, lab, hc⟩ := s
  simp only at h1 h2 h3 h4 h5 h6 h7 h8 h9
  refine Spec.enter 67 [(0, _)] func33 rfl ntmps33 (by simp) rfl ?_
  intro C hCf hR hCI
  repeat (first | refine Run.seq ?_ | refine Run.region ?_)
  refine Ops.box rfl (by decide) rfl rfl (fun b => ?_)
  repeat (first | refine Run.seq ?_ | refine Run.region ?_ | refine Ops.nil ?_ | refine Ops.pure T rfl (by decide) rfl ?_ | refine Ops.load 0 rfl (by decide) rfl rfl (T.aggOk rfl) rfl ?_)
  refine Ops.call ((laws_zzFits12 I _ _ (h1.mono (Le.refl _)))) rfl (by decide) call34 rfl ?_
  rintro _ J1 l1 ⟨r1, rfl, g1⟩
  repeat (first | refine Ops.nil ?_ | refine Ops.pure T rfl (by decide) rfl ?_)
  cases r1 with
  | false =>
    repeat (first | refine Run.seq ?_ | refine Run.region ?_ | refine Ops.nil ?_ | refine Run.cond_t rfl ?_ | refine Ops.pure T rfl (by decide) rfl ?_)
    refine Run.fin (Run.ret1 (by rw [hCf]; exact func33) results33 rfl (hR _ _ _ ?_))
    exact ⟨rfl, false, rfl, by simp⟩
  | true =>
  repeat (first | refine Run.seq ?_ | refine Run.region ?_ | refine Run.skip ?_ | refine Run.cond_f rfl ?_ | refine Ops.pure T rfl (by decide) rfl ?_ | refine Ops.load 0 rfl (by decide) rfl rfl (T.aggOk rfl) rfl ?_)
  refine Ops.call ((laws_zzFits12 J1 _ _ (h2.mono l1))) rfl (by decide) call34 rfl ?_
  rintro _ J2 l2 ⟨r2, rfl, g2⟩
  repeat (first | refine Ops.nil ?_ | refine Ops.pure T rfl (by decide) rfl ?_)
  cases r2 with
  | false =>
    repeat (first | refine Run.seq ?_ | refine Run.region ?_ | refine Ops.nil ?_ | refine Run.cond_t rfl ?_ | refine Ops.pure T rfl (by decide) rfl ?_)
    refine Run.fin (Run.ret1 (by rw [hCf]; exact func33) results33 rfl (hR _ _ _ ?_))
    exact ⟨rfl, false, rfl, by simp⟩
  | true =>
  repeat (first | refine Run.seq ?_ | refine Run.region ?_ | refine Run.skip ?_ | refine Run.cond_f rfl ?_ | refine Ops.pure T rfl (by decide) rfl ?_ | refine Ops.load 0 rfl (by decide) rfl rfl (T.aggOk rfl) rfl ?_)
  refine Ops.call ((laws_zzFits12 J2 _ _ (h3.mono (l1.trans l2)))) rfl (by decide) call34 rfl ?_
  rintro _ J3 l3 ⟨r3, rfl, g3⟩
  repeat (first | refine Ops.nil ?_ | refine Ops.pure T rfl (by decide) rfl ?_)
  cases r3 with
  | false =>
    repeat (first | refine Run.seq ?_ | refine Run.region ?_ | refine Ops.nil ?_ | refine Run.cond_t rfl ?_ | refine Ops.pure T rfl (by decide) rfl ?_)
    refine Run.fin (Run.ret1 (by rw [hCf]; exact func33) results33 rfl (hR _ _ _ ?_))
    exact ⟨rfl, false, rfl, by simp⟩
  | true =>
  repeat (first | refine Run.seq ?_ | refine Run.region ?_ | refine Run.skip ?_ | refine Run.cond_f rfl ?_ | refine Ops.pure T rfl (by decide) rfl ?_ | refine Ops.load 0 rfl (by decide) rfl rfl (T.aggOk rfl) rfl ?_)
  refine Ops.call ((laws_zzFits12 J3 _ _ (h4.mono ((l1.trans l2).trans l3)))) rfl (by decide) call34 rfl ?_
  rintro _ J4 l4 ⟨r4, rfl, g4⟩
  repeat (first | refine Ops.nil ?_ | refine Ops.pure T rfl (by decide) rfl ?_)
  cases r4 with
  | false =>
    repeat (first | refine Run.seq ?_ | refine Run.region ?_ | refine Ops.nil ?_ | refine Run.cond_t rfl ?_ | refine Ops.pure T rfl (by decide) rfl ?_)
    refine Run.fin (Run.ret1 (by rw [hCf]; exact func33) results33 rfl (hR _ _ _ ?_))
    exact ⟨rfl, false, rfl, by simp⟩
  | true =>
  repeat (first | refine Run.seq ?_ | refine Run.region ?_ | refine Run.skip ?_ | refine Run.cond_f rfl ?_ | refine Ops.pure T rfl (by decide) rfl ?_ | refine Ops.load 0 rfl (by decide) rfl rfl (T.aggOk rfl) rfl ?_)
  refine Ops.call ((laws_zzFits12 J4 _ _ (h5.mono (((l1.trans l2).trans l3).trans l4)))) rfl (by decide) call34 rfl ?_
  rintro _ J5 l5 ⟨r5, rfl, g5⟩
  repeat (first | refine Ops.nil ?_ | refine Ops.pure T rfl (by decide) rfl ?_)
  cases r5 with
  | false =>
    repeat (first | refine Run.seq ?_ | refine Run.region ?_ | refine Ops.nil ?_ | refine Run.cond_t rfl ?_ | refine Ops.pure T rfl (by decide) rfl ?_)
    refine Run.fin (Run.ret1 (by rw [hCf]; exact func33) results33 rfl (hR _ _ _ ?_))
    exact ⟨rfl, false, rfl, by simp⟩
  | true =>
  repeat (first | refine Run.seq ?_ | refine Run.region ?_ | refine Run.skip ?_ | refine Run.cond_f rfl ?_ | refine Ops.pure T rfl (by decide) rfl ?_ | refine Ops.load 0 rfl (by decide) rfl rfl (T.aggOk rfl) rfl ?_)
  refine Ops.call ((laws_zzFits12 J5 _ _ (h6.mono ((((l1.trans l2).trans l3).trans l4).trans l5)))) rfl (by decide) call34 rfl ?_
  rintro _ J6 l6 ⟨r6, rfl, g6⟩
  repeat (first | refine Ops.nil ?_ | refine Ops.pure T rfl (by decide) rfl ?_)
  cases r6 with
  | false =>
    repeat (first | refine Run.seq ?_ | refine Run.region ?_ | refine Ops.nil ?_ | refine Run.cond_t rfl ?_ | refine Ops.pure T rfl (by decide) rfl ?_)
    refine Run.fin (Run.ret1 (by rw [hCf]; exact func33) results33 rfl (hR _ _ _ ?_))
    exact ⟨rfl, false, rfl, by simp⟩
  | true =>
  repeat (first | refine Run.seq ?_ | refine Run.region ?_ | refine Run.skip ?_ | refine Run.cond_f rfl ?_ | refine Ops.pure T rfl (by decide) rfl ?_ | refine Ops.load 0 rfl (by decide) rfl rfl (T.aggOk rfl) rfl ?_)
  refine Ops.call ((laws_zzFits12 J6 _ _ (h7.mono (((((l1.trans l2).trans l3).trans l4).trans l5).trans l6)))) rfl (by decide) call34 rfl ?_
  rintro _ J7 l7 ⟨r7, rfl, g7⟩
  repeat (first | refine Ops.nil ?_ | refine Ops.pure T rfl (by decide) rfl ?_)
  cases r7 with
  | false =>
    repeat (first | refine Run.seq ?_ | refine Run.region ?_ | refine Ops.nil ?_ | refine Run.cond_t rfl ?_ | refine Ops.pure T rfl (by decide) rfl ?_)
    refine Run.fin (Run.ret1 (by rw [hCf]; exact func33) results33 rfl (hR _ _ _ ?_))
    exact ⟨rfl, false, rfl, by simp⟩
  | true =>
  repeat (first | refine Run.seq ?_ | refine Run.region ?_ | refine Ops.nil ?_ | refine Run.skip ?_ | refine Run.cond_f rfl ?_ | refine Ops.gtr rfl (by decide) rfl rfl ?_ | refine Ops.pure T rfl (by decide) rfl ?_ | refine Ops.lenS T rfl (by decide) rfl rfl ?_ | refine Ops.load 0 rfl (by decide) rfl rfl (T.aggOk rfl) rfl ?_)
  have m7 := (((((l1.trans l2).trans l3).trans l4).trans l5).trans l6).trans l7
  refine Run.cond rfl rfl (fun q1 => ?_) (fun q1 => ?_)
  all_goals (try rw [q1])
  all_goals (try simp only [decide_eq_true_eq, decide_eq_false_iff_not, Bool.not_eq_true', Bool.not_eq_false', Bool.and_eq_true, Bool.or_eq_true, Bool.and_eq_false_imp, Bool.or_eq_false_iff] at q1)
  · skip
    repeat (first | refine Run.seq ?_ | refine Run.region ?_ | refine Ops.nil ?_ | refine Ops.pure T rfl (by decide) rfl ?_)
    refine Run.fin (Run.ret1 (by rw [hCf]; exact func33) results33 rfl (hR _ _ _ ?_))
    exact ⟨rfl, false, rfl, by simp⟩
  repeat (first | refine Run.seq ?_ | refine Run.region ?_ | refine Ops.nil ?_ | refine Run.skip ?_ | refine Ops.gtr rfl (by decide) rfl rfl ?_ | refine Ops.pure T rfl (by decide) rfl ?_ | refine Ops.lenS T rfl (by decide) rfl rfl ?_ | refine Ops.load 0 rfl (by decide) rfl rfl (T.aggOk rfl) rfl ?_)
  refine Run.cond rfl rfl (fun q2 => ?_) (fun q2 => ?_)
  all_goals (try rw [q2])
  all_goals (try simp only [decide_eq_true_eq, decide_eq_false_iff_not, Bool.not_eq_true', Bool.not_eq_false', Bool.and_eq_true, Bool.or_eq_true, Bool.and_eq_false_imp, Bool.or_eq_false_iff] at q2)
  · skip
    repeat (first | refine Run.seq ?_ | refine Run.region ?_ | refine Ops.nil ?_ | refine Ops.pure T rfl (by decide) rfl ?_)
    refine Run.fin (Run.ret1 (by rw [hCf]; exact func33) results33 rfl (hR _ _ _ ?_))
    exact ⟨rfl, false, rfl, by simp⟩
  repeat (first | refine Run.seq ?_ | refine Run.region ?_ | refine Ops.nil ?_ | refine Run.skip ?_ | refine Ops.gtr rfl (by decide) rfl rfl ?_ | refine Ops.pure T rfl (by decide) rfl ?_ | refine Ops.lenS T rfl (by decide) rfl rfl ?_ | refine Ops.load 0 rfl (by decide) rfl rfl (T.aggOk rfl) rfl ?_)
  refine Run.cond rfl rfl (fun q3 => ?_) (fun q3 => ?_)
  all_goals (try rw [q3])
  all_goals (try simp only [decide_eq_true_eq, decide_eq_false_iff_not, Bool.not_eq_true', Bool.not_eq_false', Bool.and_eq_true, Bool.or_eq_true, Bool.and_eq_false_imp, Bool.or_eq_false_iff] at q3)
  · skip
    repeat (first | refine Run.seq ?_ | refine Run.region ?_ | refine Ops.nil ?_ | refine Ops.pure T rfl (by decide) rfl ?_)
    refine Run.fin (Run.ret1 (by rw [hCf]; exact func33) results33 rfl (hR _ _ _ ?_))
    exact ⟨rfl, false, rfl, by simp⟩
  repeat (first | refine Run.seq ?_ | refine Run.region ?_ | refine Ops.nil ?_ | refine Run.skip ?_ | refine Ops.gtr rfl (by decide) rfl rfl ?_ | refine Ops.pure T rfl (by decide) rfl ?_ | refine Ops.lenS T rfl (by decide) rfl rfl ?_ | refine Ops.load 0 rfl (by decide) rfl rfl (T.aggOk rfl) rfl ?_)
  refine Run.cond rfl rfl (fun q4 => ?_) (fun q4 => ?_)
  all_goals (try rw [q4])
  all_goals (try simp only [decide_eq_true_eq, decide_eq_false_iff_not, Bool.not_eq_true', Bool.not_eq_false', Bool.and_eq_true, Bool.or_eq_true, Bool.and_eq_false_imp, Bool.or_eq_false_iff] at q4)
  · skip
    repeat (first | refine Run.seq ?_ | refine Run.region ?_ | refine Ops.nil ?_ | refine Ops.pure T rfl (by decide) rfl ?_)
    refine Run.fin (Run.ret1 (by rw [hCf]; exact func33) results33 rfl (hR _ _ _ ?_))
    exact ⟨rfl, false, rfl, by simp⟩
  repeat (first | refine Run.seq ?_ | refine Run.region ?_ | refine Ops.nil ?_ | refine Run.skip ?_ | refine Ops.gtr rfl (by decide) rfl rfl ?_ | refine Ops.pure T rfl (by decide) rfl ?_ | refine Ops.lenS T rfl (by decide) rfl rfl ?_ | refine Ops.load 0 rfl (by decide) rfl rfl (T.aggOk rfl) rfl ?_)
  refine Run.cond rfl rfl (fun q5 => ?_) (fun q5 => ?_)
  all_goals (try rw [q5])
  all_goals (try simp only [decide_eq_true_eq, decide_eq_false_iff_not, Bool.not_eq_true', Bool.not_eq_false', Bool.and_eq_true, Bool.or_eq_true, Bool.and_eq_false_imp, Bool.or_eq_false_iff] at q5)
  · skip
    repeat (first | refine Run.seq ?_ | refine Run.region ?_ | refine Ops.nil ?_ | refine Ops.pure T rfl (by decide) rfl ?_)
    refine Run.fin (Run.ret1 (by rw [hCf]; exact func33) results33 rfl (hR _ _ _ ?_))
    exact ⟨rfl, false, rfl, by simp⟩
  repeat (first | refine Run.seq ?_ | refine Run.region ?_ | refine Ops.nil ?_ | refine Run.skip ?_ | refine Ops.gtr rfl (by decide) rfl rfl ?_ | refine Ops.pure T rfl (by decide) rfl ?_ | refine Ops.lenS T rfl (by decide) rfl rfl ?_ | refine Ops.load 0 rfl (by decide) rfl rfl (T.aggOk rfl) rfl ?_)
  refine Run.cond rfl rfl (fun q6 => ?_) (fun q6 => ?_)
  all_goals (try rw [q6])
  all_goals (try simp only [decide_eq_true_eq, decide_eq_false_iff_not, Bool.not_eq_true', Bool.not_eq_false', Bool.and_eq_true, Bool.or_eq_true, Bool.and_eq_false_imp, Bool.or_eq_false_iff] at q6)
  · skip
    repeat (first | refine Run.seq ?_ | refine Run.region ?_ | refine Ops.nil ?_ | refine Ops.pure T rfl (by decide) rfl ?_)
    refine Run.fin (Run.ret1 (by rw [hCf]; exact func33) results33 rfl (hR _ _ _ ?_))
    exact ⟨rfl, false, rfl, by simp⟩
  repeat (first | refine Run.seq ?_ | refine Run.region ?_ | refine Ops.nil ?_ | refine Run.skip ?_ | refine Ops.gtr rfl (by decide) rfl rfl ?_ | refine Ops.pure T rfl (by decide) rfl ?_ | refine Ops.lenS T rfl (by decide) rfl rfl ?_ | refine Ops.load 0 rfl (by decide) rfl rfl (T.aggOk rfl) rfl ?_)
  refine Run.cond rfl rfl (fun q7 => ?_) (fun q7 => ?_)
  all_goals (try rw [q7])
  all_goals (try simp only [decide_eq_true_eq, decide_eq_false_iff_not, Bool.not_eq_true', Bool.not_eq_false', Bool.and_eq_true, Bool.or_eq_true, Bool.and_eq_false_imp, Bool.or_eq_false_iff] at q7)
  · skip
    repeat (first | refine Run.seq ?_ | refine Run.region ?_ | refine Ops.nil ?_ | refine Ops.pure T rfl (by decide) rfl ?_)
    refine Run.fin (Run.ret1 (by rw [hCf]; exact func33) results33 rfl (hR _ _ _ ?_))
    exact ⟨rfl, false, rfl, by simp⟩
  repeat (first | refine Run.seq ?_ | refine Run.region ?_ | refine Run.skip ?_ | refine Ops.pure T rfl (by decide) rfl ?_ | refine Ops.load 0 rfl (by decide) rfl rfl (T.aggOk rfl) rfl ?_)
  refine Ops.call ((laws_zzFits13 J7 lab _ (h8.mono m7))) rfl (by decide) call54 rfl ?_
  rintro _ J8 l8 ⟨r8, rfl, g8⟩
  repeat (first | refine Ops.nil ?_ | refine Ops.pure T rfl (by decide) rfl ?_)
  cases r8 with
  | false =>
    repeat (first | refine Run.seq ?_ | refine Run.region ?_ | refine Ops.nil ?_ | refine Run.cond_t rfl ?_ | refine Ops.pure T rfl (by decide) rfl ?_)
    refine Run.fin (Run.ret1 (by rw [hCf]; exact func33) results33 rfl (hR _ _ _ ?_))
    exact ⟨rfl, false, rfl, by simp⟩
  | true =>
  repeat (first | refine Run.seq ?_ | refine Run.region ?_ | refine Run.skip ?_ | refine Run.cond_f rfl ?_ | refine Ops.pure T rfl (by decide) rfl ?_ | refine Ops.load 0 rfl (by decide) rfl rfl (T.aggOk rfl) rfl ?_)
  refine Ops.call ((laws_zzFits20 J8 hc _ (h9.mono (m7.trans l8)))) rfl (by decide) call78 rfl ?_
  rintro _ J9 l9 ⟨r9, rfl, g9⟩
  repeat (first | refine Ops.nil ?_ | refine Ops.pure T rfl (by decide) rfl ?_)
  cases r9 with
  | false =>
    repeat (first | refine Run.seq ?_ | refine Run.region ?_ | refine Ops.nil ?_ | refine Run.cond_t rfl ?_ | refine Ops.pure T rfl (by decide) rfl ?_)
    refine Run.fin (Run.ret1 (by rw [hCf]; exact func33) results33 rfl (hR _ _ _ ?_))
    exact ⟨rfl, false, rfl, by simp⟩
  | true =>
  repeat (first | refine Run.seq ?_ | refine Run.region ?_ | refine Ops.nil ?_ | refine Run.skip ?_ | refine Run.cond_f rfl ?_ | refine Ops.pure T rfl (by decide) rfl ?_)
  refine Run.fin (Run.ret1 (by rw [hCf]; exact func33) results33 rfl (hR _ _ _ ?_))
  exact ⟨rfl, true, rfl, fun _ => ⟨⟨g1 rfl, g2 rfl, g3 rfl, g4 rfl, g5 rfl, g6 rfl, g7 rfl⟩, ⟨by simp only; omega, by simp only; omega, by simp only; omega, by simp only; omega, by simp only; omega, by simp only; omega, by simp only; omega⟩, g8 rfl, (g9 rfl).1, (g9 rfl).2⟩⟩
end Go.V
namespace Go.V
open Go.Proofs.Tryz
open Go.RowKit
set_option linter.unusedVariables false
set_option linter.unusedSimpArgs false
set_option maxRecDepth 10000
attribute [local irreducible] Run Ops
structure Cf where
  (arch author cont dver os osv var : List UInt8)
  created : Int
  hist : List Hi
  rty : List UInt8
  diffs : List K2
  st : St
  feat : Txts
structure CV where
  (hist diffs : SlV)
  st : SV
  feat : SlV
def Cf.cs (c : Cf) (v : CV) : List Value := [str c.arch, str c.author, str c.cont, str c.dver, str c.os, str c.osv, str c.var, .int .i64 c.created, v.hist.v, str c.rty, v.diffs.v] ++ c.st.cs v.st ++ [v.feat.v]
def CfL (I : Imm) (c : Cf) (v : CV) : Prop := Sl tHi I v.hist.v c.hist ∧ Sl tK2 I v.diffs.v c.diffs ∧ StL I c.st v.st ∧ Sl tStr I v.feat.v c.feat
theorem CfL.mono {I J : Imm} {c : Cf} {v : CV} (h : CfL I c v) (l : Le I J) : CfL J c v := ⟨h.1.mono l, h.2.1.mono l, h.2.2.1.mono l, h.2.2.2.mono l⟩
def fitCf (c : Cf) : Prop := (c.arch.length ≤ 2147483647 ∧ c.author.length ≤ 2147483647 ∧ c.cont.length ≤ 2147483647 ∧ c.dver.length ≤ 2147483647 ∧ c.os.length ≤ 2147483647 ∧ c.osv.length ≤ 2147483647 ∧ c.var.length ≤ 2147483647 ∧ c.rty.length ≤ 2147483647) ∧
  (c.hist.length ≤ 2147483647 ∧ ∀ x ∈ c.hist, fitHi x) ∧ (c.diffs.length ≤ 2147483647 ∧ ∀ x ∈ c.diffs, fit2 x) ∧ fitSt c.st ∧ fitL c.feat
set_option maxHeartbeats 4000000 in
theorem laws_zzFits15 (I : Imm) (c : Cf) (v : CV) (hL : CfL I c v) : Pure prog 11 [.agg (c.cs v).toArray] I fun w J => ∃ r, w = .bool r ∧ (r = true → fitCf c) := by
  obtain ⟨h1, h2, h3, h4⟩ := hL
  obtain ⟨arch, author, cont, dver, os, osv, var, created, hist, rty, diffs, st, feat⟩ := c
  simp only at h1 h2 h3 h4
  refine Spec.enter 51 [(0, _)] func11 rfl ntmps11 (by simp) rfl ?_
  intro C hCf hR hCI
  repeat (first | refine Run.seq ?_ | refine Run.region ?_)
  refine Ops.box rfl (by decide) rfl rfl (fun b => ?_)
  repeat (first | refine Run.seq ?_ | refine Run.region ?_ | refine Ops.nil ?_ | refine Ops.gtr rfl (by decide) rfl rfl ?_ | refine Ops.pure T rfl (by decide) rfl ?_ | refine Ops.lenS T rfl (by decide) rfl rfl ?_ | refine Ops.load 0 rfl (by decide) rfl rfl (T.aggOk rfl) rfl ?_)
  refine Run.cond rfl rfl (fun q1 => ?_) (fun q1 => ?_)
  all_goals (try rw [q1])
  all_goals (try simp only [decide_eq_true_eq, decide_eq_false_iff_not, Bool.not_eq_true', Bool.not_eq_false', Bool.and_eq_true, Bool.or_eq_true, Bool.and_eq_false_imp, Bool.or_eq_false_iff] at q1)
  · skip
    repeat (first | refine Run.seq ?_ | refine Run.region ?_ | refine Ops.nil ?_ | refine Ops.pure T rfl (by decide) rfl ?_)
    refine Run.fin (Run.ret1 (by rw [hCf]; exact func11) results11 rfl (hR _ _ _ ?_))
    exact ⟨rfl, false, rfl, by simp⟩
  repeat (first | refine Run.seq ?_ | refine Run.region ?_ | refine Ops.nil ?_ | refine Run.skip ?_ | refine Ops.gtr rfl (by decide) rfl rfl ?_ | refine Ops.pure T rfl (by decide) rfl ?_ | refine Ops.lenS T rfl (by decide) rfl rfl ?_ | refine Ops.load 0 rfl (by decide) rfl rfl (T.aggOk rfl) rfl ?_)
  refine Run.cond rfl rfl (fun q2 => ?_) (fun q2 => ?_)
  all_goals (try rw [q2])
  all_goals (try simp only [decide_eq_true_eq, decide_eq_false_iff_not, Bool.not_eq_true', Bool.not_eq_false', Bool.and_eq_true, Bool.or_eq_true, Bool.and_eq_false_imp, Bool.or_eq_false_iff] at q2)
  · skip
    repeat (first | refine Run.seq ?_ | refine Run.region ?_ | refine Ops.nil ?_ | refine Ops.pure T rfl (by decide) rfl ?_)
    refine Run.fin (Run.ret1 (by rw [hCf]; exact func11) results11 rfl (hR _ _ _ ?_))
    exact ⟨rfl, false, rfl, by simp⟩
  repeat (first | refine Run.seq ?_ | refine Run.region ?_ | refine Ops.nil ?_ | refine Run.skip ?_ | refine Ops.gtr rfl (by decide) rfl rfl ?_ | refine Ops.pure T rfl (by decide) rfl ?_ | refine Ops.lenS T rfl (by decide) rfl rfl ?_ | refine Ops.load 0 rfl (by decide) rfl rfl (T.aggOk rfl) rfl ?_)
  refine Run.cond rfl rfl (fun q3 => ?_) (fun q3 => ?_)
  all_goals (try rw [q3])
  all_goals (try simp only [decide_eq_true_eq, decide_eq_false_iff_not, Bool.not_eq_true', Bool.not_eq_false', Bool.and_eq_true, Bool.or_eq_true, Bool.and_eq_false_imp, Bool.or_eq_false_iff] at q3)
  · skip
    repeat (first | refine Run.seq ?_ | refine Run.region ?_ | refine Ops.nil ?_ | refine Ops.pure T rfl (by decide) rfl ?_)
    refine Run.fin (Run.ret1 (by rw [hCf]; exact func11) results11 rfl (hR _ _ _ ?_))
    exact ⟨rfl, false, rfl, by simp⟩
  repeat (first | refine Run.seq ?_ | refine Run.region ?_ | refine Ops.nil ?_ | refine Run.skip ?_ | refine Ops.gtr rfl (by decide) rfl rfl ?_ | refine Ops.pure T rfl (by decide) rfl ?_ | refine Ops.lenS T rfl (by decide) rfl rfl ?_ | refine Ops.load 0 rfl (by decide) rfl rfl (T.aggOk rfl) rfl ?_)
  refine Run.cond rfl rfl (fun q4 => ?_) (fun q4 => ?_)
  all_goals (try rw [q4])
  all_goals (try simp only [decide_eq_true_eq, decide_eq_false_iff_not, Bool.not_eq_true', Bool.not_eq_false', Bool.and_eq_true, Bool.or_eq_true, Bool.and_eq_false_imp, Bool.or_eq_false_iff] at q4)
  · skip
    repeat (first | refine Run.seq ?_ | refine Run.region ?_ | refine Ops.nil ?_ | refine Ops.pure T rfl (by decide) rfl ?_)
    refine Run.fin (Run.ret1 (by rw [hCf]; exact func11) results11 rfl (hR _ _ _ ?_))
    exact ⟨rfl, false, rfl, by simp⟩
  repeat (first | refine Run.seq ?_ | refine Run.region ?_ | refine Ops.nil ?_ | refine Run.skip ?_ | refine Ops.gtr rfl (by decide) rfl rfl ?_ | refine Ops.pure T rfl (by decide) rfl ?_ | refine Ops.lenS T rfl (by decide) rfl rfl ?_ | refine Ops.load 0 rfl (by decide) rfl rfl (T.aggOk rfl) rfl ?_)
  refine Run.cond rfl rfl (fun q5 => ?_) (fun q5 => ?_)
  all_goals (try rw [q5])
  all_goals (try simp only [decide_eq_true_eq, decide_eq_false_iff_not, Bool.not_eq_true', Bool.not_eq_false', Bool.and_eq_true, Bool.or_eq_true, Bool.and_eq_false_imp, Bool.or_eq_false_iff] at q5)
  · skip
    repeat (first | refine Run.seq ?_ | refine Run.region ?_ | refine Ops.nil ?_ | refine Ops.pure T rfl (by decide) rfl ?_)
    refine Run.fin (Run.ret1 (by rw [hCf]; exact func11) results11 rfl (hR _ _ _ ?_))
    exact ⟨rfl, false, rfl, by simp⟩
  repeat (first | refine Run.seq ?_ | refine Run.region ?_ | refine Ops.nil ?_ | refine Run.skip ?_ | refine Ops.gtr rfl (by decide) rfl rfl ?_ | refine Ops.pure T rfl (by decide) rfl ?_ | refine Ops.lenS T rfl (by decide) rfl rfl ?_ | refine Ops.load 0 rfl (by decide) rfl rfl (T.aggOk rfl) rfl ?_)
  refine Run.cond rfl rfl (fun q6 => ?_) (fun q6 => ?_)
  all_goals (try rw [q6])
  all_goals (try simp only [decide_eq_true_eq, decide_eq_false_iff_not, Bool.not_eq_true', Bool.not_eq_false', Bool.and_eq_true, Bool.or_eq_true, Bool.and_eq_false_imp, Bool.or_eq_false_iff] at q6)
  · skip
    repeat (first | refine Run.seq ?_ | refine Run.region ?_ | refine Ops.nil ?_ | refine Ops.pure T rfl (by decide) rfl ?_)
    refine Run.fin (Run.ret1 (by rw [hCf]; exact func11) results11 rfl (hR _ _ _ ?_))
    exact ⟨rfl, false, rfl, by simp⟩
  repeat (first | refine Run.seq ?_ | refine Run.region ?_ | refine Ops.nil ?_ | refine Run.skip ?_ | refine Ops.gtr rfl (by decide) rfl rfl ?_ | refine Ops.pure T rfl (by decide) rfl ?_ | refine Ops.lenS T rfl (by decide) rfl rfl ?_ | refine Ops.load 0 rfl (by decide) rfl rfl (T.aggOk rfl) rfl ?_)
  refine Run.cond rfl rfl (fun q7 => ?_) (fun q7 => ?_)
  all_goals (try rw [q7])
  all_goals (try simp only [decide_eq_true_eq, decide_eq_false_iff_not, Bool.not_eq_true', Bool.not_eq_false', Bool.and_eq_true, Bool.or_eq_true, Bool.and_eq_false_imp, Bool.or_eq_false_iff] at q7)
  · skip
    repeat (first | refine Run.seq ?_ | refine Run.region ?_ | refine Ops.nil ?_ | refine Ops.pure T rfl (by decide) rfl ?_)
    refine Run.fin (Run.ret1 (by rw [hCf]; exact func11) results11 rfl (hR _ _ _ ?_))
    exact ⟨rfl, false, rfl, by simp⟩
  repeat (first | refine Run.seq ?_ | refine Run.region ?_ | refine Run.skip ?_ | refine Ops.pure T rfl (by decide) rfl ?_ | refine Ops.load 0 rfl (by decide) rfl rfl (T.aggOk rfl) rfl ?_)
  refine Ops.call ((laws_zzFits16 I hist _ h1)) rfl (by decide) call31 rfl ?_
  rintro _ J1 l1 ⟨r1, rfl, g1⟩
  repeat (first | refine Ops.nil ?_ | refine Ops.pure T rfl (by decide) rfl ?_)
  cases r1 with
  | false =>
    repeat (first | refine Run.seq ?_ | refine Run.region ?_ | refine Ops.nil ?_ | refine Run.cond_t rfl ?_ | refine Ops.pure T rfl (by decide) rfl ?_)
    refine Run.fin (Run.ret1 (by rw [hCf]; exact func11) results11 rfl (hR _ _ _ ?_))
    exact ⟨rfl, false, rfl, by simp⟩
  | true =>
  repeat (first | refine Run.seq ?_ | refine Run.region ?_ | refine Ops.nil ?_ | refine Run.skip ?_ | refine Run.cond_f rfl ?_ | refine Ops.gtr rfl (by decide) rfl rfl ?_ | refine Ops.pure T rfl (by decide) rfl ?_ | refine Ops.lenS T rfl (by decide) rfl rfl ?_ | refine Ops.load 0 rfl (by decide) rfl rfl (T.aggOk rfl) rfl ?_)
  refine Run.cond rfl rfl (fun q8 => ?_) (fun q8 => ?_)
  all_goals (try rw [q8])
  all_goals (try simp only [decide_eq_true_eq, decide_eq_false_iff_not, Bool.not_eq_true', Bool.not_eq_false', Bool.and_eq_true, Bool.or_eq_true, Bool.and_eq_false_imp, Bool.or_eq_false_iff] at q8)
  · skip
    repeat (first | refine Run.seq ?_ | refine Run.region ?_ | refine Ops.nil ?_ | refine Ops.pure T rfl (by decide) rfl ?_)
    refine Run.fin (Run.ret1 (by rw [hCf]; exact func11) results11 rfl (hR _ _ _ ?_))
    exact ⟨rfl, false, rfl, by simp⟩
  repeat (first | refine Run.seq ?_ | refine Run.region ?_ | refine Run.skip ?_ | refine Ops.pure T rfl (by decide) rfl ?_ | refine Ops.load 0 rfl (by decide) rfl rfl (T.aggOk rfl) rfl ?_)
  refine Ops.call ((laws_zzFits17 J1 diffs _ (h2.mono l1))) rfl (by decide) call32 rfl ?_
  rintro _ J2 l2 ⟨r2, rfl, g2⟩
  repeat (first | refine Ops.nil ?_ | refine Ops.pure T rfl (by decide) rfl ?_)
  cases r2 with
  | false =>
    repeat (first | refine Run.seq ?_ | refine Run.region ?_ | refine Ops.nil ?_ | refine Run.cond_t rfl ?_ | refine Ops.pure T rfl (by decide) rfl ?_)
    refine Run.fin (Run.ret1 (by rw [hCf]; exact func11) results11 rfl (hR _ _ _ ?_))
    exact ⟨rfl, false, rfl, by simp⟩
  | true =>
  repeat (first | refine Run.seq ?_ | refine Run.region ?_ | refine Run.skip ?_ | refine Run.cond_f rfl ?_ | refine Ops.pure T rfl (by decide) rfl ?_ | refine Ops.loadN 0 rfl (by decide) rfl rfl (T.aggOk rfl) (T.sizeOk rfl) rfl rfl ?_)
  refine Ops.call ((laws_zzFits19 J2 st v.st (h3.mono (l1.trans l2)))) rfl (by decide) call33 rfl ?_
  rintro _ J3 l3 ⟨r3, rfl, g3⟩
  repeat (first | refine Ops.nil ?_ | refine Ops.pure T rfl (by decide) rfl ?_)
  cases r3 with
  | false =>
    repeat (first | refine Run.seq ?_ | refine Run.region ?_ | refine Ops.nil ?_ | refine Run.cond_t rfl ?_ | refine Ops.pure T rfl (by decide) rfl ?_)
    refine Run.fin (Run.ret1 (by rw [hCf]; exact func11) results11 rfl (hR _ _ _ ?_))
    exact ⟨rfl, false, rfl, by simp⟩
  | true =>
  repeat (first | refine Run.seq ?_ | refine Run.region ?_ | refine Run.skip ?_ | refine Run.cond_f rfl ?_ | refine Ops.pure T rfl (by decide) rfl ?_ | refine Ops.load 0 rfl (by decide) rfl rfl (T.aggOk rfl) rfl ?_)
  refine Ops.call ((laws_zzFits12 J3 feat _ (h4.mono ((l1.trans l2).trans l3)))) rfl (by decide) call34 rfl ?_
  rintro _ J4 l4 ⟨r4, rfl, g4⟩
  repeat (first | refine Ops.nil ?_ | refine Ops.pure T rfl (by decide) rfl ?_)
  cases r4 with
  | false =>
    repeat (first | refine Run.seq ?_ | refine Run.region ?_ | refine Ops.nil ?_ | refine Run.cond_t rfl ?_ | refine Ops.pure T rfl (by decide) rfl ?_)
    refine Run.fin (Run.ret1 (by rw [hCf]; exact func11) results11 rfl (hR _ _ _ ?_))
    exact ⟨rfl, false, rfl, by simp⟩
  | true =>
  repeat (first | refine Run.seq ?_ | refine Run.region ?_ | refine Ops.nil ?_ | refine Run.skip ?_ | refine Run.cond_f rfl ?_ | refine Ops.pure T rfl (by decide) rfl ?_)
  refine Run.fin (Run.ret1 (by rw [hCf]; exact func11) results11 rfl (hR _ _ _ ?_))
  exact ⟨rfl, true, rfl, fun _ => ⟨⟨by simp only; omega, by simp only; omega, by simp only; omega, by simp only; omega, by simp only; omega, by simp only; omega, by simp only; omega, by simp only; omega⟩, g1 rfl, g2 rfl, g3 rfl, g4 rfl⟩⟩
end Go.V
namespace Go.V
open Go.Proofs.Tryz
open Go.RowKit
set_option linter.unusedVariables false
set_option linter.unusedSimpArgs false
set_option maxRecDepth 10000
attribute [local irreducible] Run Ops
def Asc (xs : List K2) : Prop := ∀ i x y, xs[i]? = some x → xs[i + 1]? = some y → x.1 < y.1
theorem blt_tri : ∀ s u : List UInt8, ¬ s < u → s ≠ u → u < s
  | [], [], _, h => absurd rfl h
  | [], _ :: _, h, _ => absurd (by simp) h
  | _ :: _, [], _, _ => by simp
  | a :: x, b :: y, h, hne => by
    simp only [List.cons_lt_cons_iff] at h ⊢
    by_cases hab : a = b
    · subst hab
      exact .inr ⟨rfl, blt_tri x y (fun hh => h (.inr ⟨rfl, hh⟩)) (fun e => hne (by rw [e]))⟩
    · refine .inl ?_
      have h1 : ¬ a < b := fun hh => h (.inl hh)
      have h2 : a.toNat ≠ b.toNat := fun e => hab (UInt8.toNat_inj.1 e)
      rw [UInt8.lt_iff_toNat_lt] at h1 ⊢
      omega
theorem bleq_not {s u : List UInt8} (h : (Op.bytesLess s u || s == u) = false) : u < s := by
  rw [bless_eq] at h
  simp only [Bool.or_eq_false_iff, decide_eq_false_iff_not, beq_eq_false_iff_ne] at h
  exact blt_tri s u h.1 h.2
set_option maxHeartbeats 1000000 in
theorem laws_pairsGood (I : Imm) (xs : List K2) (v : Value) (hS : Sl tK2 I v xs) (hlen : xs.length ≤ 2147483647) : Pure prog 36 [v] I fun w J => ∃ r, w = .bool r ∧ (r = true → Asc xs) := by
  have hS0 := hS
  obtain ⟨A, c, rfl, hc, hrow⟩ := hS0
  refine Spec.enter 26 [(0, _)] func36 rfl ntmps36 (by simp) rfl ?_
  intro C hCf hR hCI
  repeat (first | refine Run.seq ?_ | refine Run.region ?_ | refine Ops.nil ?_ | refine Run.block ?_ | refine Ops.pure T rfl (by decide) rfl ?_)
  refine Run.keep [0, 5, 6] [_, _, _] rfl ?_
  refine Run.rounds (fun m env L J => ∃ i : Nat, m = xs.length - i ∧ i ≤ xs.length ∧ (∀ j x y, j + 1 < i → xs[j]? = some x → xs[j + 1]? = some y → x.1 < y.1) ∧ env = [(0, .slice A xs.length c), (5, .int .i64 xs.length), (6, .int .i64 i)] ∧ L = [] ∧ J = I) xs.length
    ⟨0, by omega, by omega, by omega, rfl, rfl, rfl⟩ ?_
  rintro m env L J ⟨i, rfl, hi, hall, rfl, rfl, rfl⟩ ih
  repeat (first | refine Run.seq ?_ | refine Run.region ?_ | refine Ops.nil ?_ | refine Ops.lss rfl (by decide) rfl rfl ?_)
  refine Run.cond rfl rfl (fun h => ?_) (fun h => ?_)
  all_goals (try rw [h])
  all_goals (try simp only [decide_eq_true_eq, decide_eq_false_iff_not, Bool.not_eq_true', Bool.not_eq_false', Bool.and_eq_true, Bool.or_eq_true, Bool.and_eq_false_imp, Bool.or_eq_false_iff] at h)
  · have hi' : i < xs.length := by omega
    repeat (first | refine Run.seq ?_ | refine Run.region ?_ | refine Ops.nil ?_ | refine Run.skip ?_ | refine Run.block ?_ | refine Ops.pure T rfl (by decide) rfl ?_)
    rcases Nat.eq_zero_or_pos i with rfl | hpos
    · skip
      refine Run.regionAny (Holds J []) (bl 16 0) (by kernel_rfl) (by kernel_rfl) ?_
      refine RAny.tk 0 (bl 16 1) rfl (by kernel_rfl) (by decide) (fun W h => h.holds (Le.refl _) (by first | exact mp rfl | exact mq rfl)) (Yld.eval T rfl rfl) ?_
      refine RAny.tk 1 (bl 16 3) rfl (by kernel_rfl) (by decide) (fun W h => h.holds (Le.refl _) (by first | exact mp rfl | exact mq rfl)) (Yld.as (v' := .bool false) (Yld.gtr rfl rfl rfl) (by simp)) ?_
      refine RAny.tk 2 (bl 16 7) rfl (by kernel_rfl) (by decide) (fun W h => h.holds (Le.refl _) (by first | exact mp rfl | exact mq rfl)) (Yld.eval T rfl rfl) ?_
      first | refine RAny.tk 3 (bl 16 15) rfl (by kernel_rfl) (by decide) (fun W h => h.holds (Le.refl _) (by first | exact mp rfl | exact mq rfl)) (Yld.eval T rfl rfl) ?_ | refine RAny.tk 3 (bl 16 15) rfl (by kernel_rfl) (by decide) (fun W h => h.holds (Le.refl _) (by first | exact mp rfl | exact mq rfl)) (Yld.off rfl) ?_ | refine RAny.tu 3 (bl 16 15) rfl (by kernel_rfl) (by decide) (fun W h => h.holds (Le.refl _) (by first | exact mp rfl | exact mq rfl)) rfl ?_
      first | refine RAny.tk 4 (bl 16 31) rfl (by kernel_rfl) (by decide) (fun W h => h.holds (Le.refl _) (by first | exact mp rfl | exact mq rfl)) (Yld.eval T rfl rfl) ?_ | refine RAny.tk 4 (bl 16 31) rfl (by kernel_rfl) (by decide) (fun W h => h.holds (Le.refl _) (by first | exact mp rfl | exact mq rfl)) (Yld.off rfl) ?_ | refine RAny.tu 4 (bl 16 31) rfl (by kernel_rfl) (by decide) (fun W h => h.holds (Le.refl _) (by first | exact mp rfl | exact mq rfl)) rfl ?_
      first | refine RAny.tk 5 (bl 16 63) rfl (by kernel_rfl) (by decide) (fun W h => h.holds (Le.refl _) (by first | exact mp rfl | exact mq rfl)) (Yld.eval T rfl rfl) ?_ | refine RAny.tk 5 (bl 16 63) rfl (by kernel_rfl) (by decide) (fun W h => h.holds (Le.refl _) (by first | exact mp rfl | exact mq rfl)) (Yld.off rfl) ?_ | refine RAny.tu 5 (bl 16 63) rfl (by kernel_rfl) (by decide) (fun W h => h.holds (Le.refl _) (by first | exact mp rfl | exact mq rfl)) rfl ?_
      first | refine RAny.tk 6 (bl 16 127) rfl (by kernel_rfl) (by decide) (fun W h => h.holds (Le.refl _) (by first | exact mp rfl | exact mq rfl)) (Yld.eval T rfl rfl) ?_ | refine RAny.tk 6 (bl 16 127) rfl (by kernel_rfl) (by decide) (fun W h => h.holds (Le.refl _) (by first | exact mp rfl | exact mq rfl)) (Yld.off rfl) ?_ | refine RAny.tu 6 (bl 16 127) rfl (by kernel_rfl) (by decide) (fun W h => h.holds (Le.refl _) (by first | exact mp rfl | exact mq rfl)) rfl ?_
      first | refine RAny.tk 7 (bl 16 255) rfl (by kernel_rfl) (by decide) (fun W h => h.holds (Le.refl _) (by first | exact mp rfl | exact mq rfl)) (Yld.load 0 T rfl rfl rfl rfl rfl) ?_ | refine RAny.tk 7 (bl 16 255) rfl (by kernel_rfl) (by decide) (fun W h => h.holds (Le.refl _) (by first | exact mp rfl | exact mq rfl)) (Yld.load 1 T rfl rfl rfl rfl rfl) ?_ | refine RAny.tk 7 (bl 16 255) rfl (by kernel_rfl) (by decide) (fun W h => h.holds (Le.refl _) (by first | exact mp rfl | exact mq rfl)) (Yld.load 2 T rfl rfl rfl rfl rfl) ?_ | refine RAny.tk 7 (bl 16 255) rfl (by kernel_rfl) (by decide) (fun W h => h.holds (Le.refl _) (by first | exact mp rfl | exact mq rfl)) (Yld.off rfl) ?_ | refine RAny.tu 7 (bl 16 255) rfl (by kernel_rfl) (by decide) (fun W h => h.holds (Le.refl _) (by first | exact mp rfl | exact mq rfl)) rfl ?_
      first | refine RAny.tk 8 (bl 16 511) rfl (by kernel_rfl) (by decide) (fun W h => h.holds (Le.refl _) (by first | exact mp rfl | exact mq rfl)) (Yld.eval T rfl rfl) ?_ | refine RAny.tk 8 (bl 16 511) rfl (by kernel_rfl) (by decide) (fun W h => h.holds (Le.refl _) (by first | exact mp rfl | exact mq rfl)) (Yld.off rfl) ?_ | refine RAny.tu 8 (bl 16 511) rfl (by kernel_rfl) (by decide) (fun W h => h.holds (Le.refl _) (by first | exact mp rfl | exact mq rfl)) rfl ?_
      first | refine RAny.tk 9 (bl 16 1023) rfl (by kernel_rfl) (by decide) (fun W h => h.holds (Le.refl _) (by first | exact mp rfl | exact mq rfl)) (Yld.eval T rfl rfl) ?_ | refine RAny.tk 9 (bl 16 1023) rfl (by kernel_rfl) (by decide) (fun W h => h.holds (Le.refl _) (by first | exact mp rfl | exact mq rfl)) (Yld.off rfl) ?_ | refine RAny.tu 9 (bl 16 1023) rfl (by kernel_rfl) (by decide) (fun W h => h.holds (Le.refl _) (by first | exact mp rfl | exact mq rfl)) rfl ?_
      first | refine RAny.tk 10 (bl 16 2047) rfl (by kernel_rfl) (by decide) (fun W h => h.holds (Le.refl _) (by first | exact mp rfl | exact mq rfl)) (Yld.eval T rfl rfl) ?_ | refine RAny.tk 10 (bl 16 2047) rfl (by kernel_rfl) (by decide) (fun W h => h.holds (Le.refl _) (by first | exact mp rfl | exact mq rfl)) (Yld.off rfl) ?_ | refine RAny.tu 10 (bl 16 2047) rfl (by kernel_rfl) (by decide) (fun W h => h.holds (Le.refl _) (by first | exact mp rfl | exact mq rfl)) rfl ?_
      first | refine RAny.tk 11 (bl 16 4095) rfl (by kernel_rfl) (by decide) (fun W h => h.holds (Le.refl _) (by first | exact mp rfl | exact mq rfl)) (Yld.eval T rfl rfl) ?_ | refine RAny.tk 11 (bl 16 4095) rfl (by kernel_rfl) (by decide) (fun W h => h.holds (Le.refl _) (by first | exact mp rfl | exact mq rfl)) (Yld.off rfl) ?_ | refine RAny.tu 11 (bl 16 4095) rfl (by kernel_rfl) (by decide) (fun W h => h.holds (Le.refl _) (by first | exact mp rfl | exact mq rfl)) rfl ?_
      first | refine RAny.tk 12 (bl 16 8191) rfl (by kernel_rfl) (by decide) (fun W h => h.holds (Le.refl _) (by first | exact mp rfl | exact mq rfl)) (Yld.eval T rfl rfl) ?_ | refine RAny.tk 12 (bl 16 8191) rfl (by kernel_rfl) (by decide) (fun W h => h.holds (Le.refl _) (by first | exact mp rfl | exact mq rfl)) (Yld.off rfl) ?_ | refine RAny.tu 12 (bl 16 8191) rfl (by kernel_rfl) (by decide) (fun W h => h.holds (Le.refl _) (by first | exact mp rfl | exact mq rfl)) rfl ?_
      first | refine RAny.tk 13 (bl 16 16383) rfl (by kernel_rfl) (by decide) (fun W h => h.holds (Le.refl _) (by first | exact mp rfl | exact mq rfl)) (Yld.load 0 T rfl rfl rfl rfl rfl) ?_ | refine RAny.tk 13 (bl 16 16383) rfl (by kernel_rfl) (by decide) (fun W h => h.holds (Le.refl _) (by first | exact mp rfl | exact mq rfl)) (Yld.load 1 T rfl rfl rfl rfl rfl) ?_ | refine RAny.tk 13 (bl 16 16383) rfl (by kernel_rfl) (by decide) (fun W h => h.holds (Le.refl _) (by first | exact mp rfl | exact mq rfl)) (Yld.load 2 T rfl rfl rfl rfl rfl) ?_ | refine RAny.tk 13 (bl 16 16383) rfl (by kernel_rfl) (by decide) (fun W h => h.holds (Le.refl _) (by first | exact mp rfl | exact mq rfl)) (Yld.off rfl) ?_ | refine RAny.tu 13 (bl 16 16383) rfl (by kernel_rfl) (by decide) (fun W h => h.holds (Le.refl _) (by first | exact mp rfl | exact mq rfl)) rfl ?_
      first | refine RAny.tk 14 (bl 16 32767) rfl (by kernel_rfl) (by decide) (fun W h => h.holds (Le.refl _) (by first | exact mp rfl | exact mq rfl)) (Yld.eval T rfl rfl) ?_ | refine RAny.tk 14 (bl 16 32767) rfl (by kernel_rfl) (by decide) (fun W h => h.holds (Le.refl _) (by first | exact mp rfl | exact mq rfl)) (Yld.off rfl) ?_ | refine RAny.tu 14 (bl 16 32767) rfl (by kernel_rfl) (by decide) (fun W h => h.holds (Le.refl _) (by first | exact mp rfl | exact mq rfl)) rfl ?_
      refine RAny.tk 15 (bl 16 65535) rfl (by kernel_rfl) (by decide) (fun W h => h.holds (Le.refl _) (by first | exact mp rfl | exact mq rfl)) (Yld.eval T rfl rfl) ?_
      refine RAny.done _ (by kernel_rfl) ?_
      repeat (first | refine Run.region ?_ | refine Ops.nil ?_ | refine Run.skip ?_ | refine Run.inBlock ?_ | refine Run.cond_f rfl ?_ | refine Ops.add rfl (by decide) rfl rfl (wI (by first | omega | (simp only [List.length_cons, List.length_nil] ; omega) | (simp; omega)) (by first | omega | (simp only [List.length_cons, List.length_nil] ; omega) | (simp; omega))) ?_ | refine Ops.pure T rfl (by decide) rfl ?_)
      refine Run.keep [0, 5, 6] [_, _, _] rfl ?_
      exact ih (xs.length - 1) _ _ _ (by omega) ⟨1, rfl, by omega, by omega, rfl, rfl, rfl⟩
    · rcases hrow with rfl | ⟨b, off, rfl, hrow⟩
      · simp at hi'
      obtain ⟨cs, hr, hA⟩ := hrow i xs[i] (List.getElem?_eq_getElem hi')
      obtain ⟨cs', hr', hA'⟩ := hrow (i - 1) xs[i - 1] (List.getElem?_eq_getElem (by omega))
      obtain rfl : cs = [str xs[i].1, str xs[i].2] := hr
      obtain rfl : cs' = [str xs[i - 1].1, str xs[i - 1].2] := hr'
      refine Run.regionAny (Holds J []) (bl 16 0) (by kernel_rfl) (by kernel_rfl) ?_
      refine RAny.tk 0 (bl 16 1) rfl (by kernel_rfl) (by decide) (fun W h => h.holds (Le.refl _) (by first | exact mp rfl | exact mq rfl)) (Yld.eval T rfl rfl) ?_
      refine RAny.tk 1 (bl 16 3) rfl (by kernel_rfl) (by decide) (fun W h => h.holds (Le.refl _) (by first | exact mp rfl | exact mq rfl)) (Yld.as (v' := .bool true) (Yld.gtr rfl rfl rfl) (by simp; omega)) ?_
      refine RAny.tk 2 (bl 16 7) rfl (by kernel_rfl) (by decide) (fun W h => h.holds (Le.refl _) (by first | exact mp rfl | exact mq rfl)) (Yld.eval T rfl rfl) ?_
      first | refine RAny.tk 3 (bl 16 15) rfl (by kernel_rfl) (by decide) (fun W h => h.holds (Le.refl _) (by first | exact mp rfl | exact mq rfl)) (Yld.eval T rfl rfl) ?_ | refine RAny.tk 3 (bl 16 15) rfl (by kernel_rfl) (by decide) (fun W h => h.holds (Le.refl _) (by first | exact mp rfl | exact mq rfl)) (Yld.off rfl) ?_ | refine RAny.tu 3 (bl 16 15) rfl (by kernel_rfl) (by decide) (fun W h => h.holds (Le.refl _) (by first | exact mp rfl | exact mq rfl)) rfl ?_
      first | refine RAny.tk 4 (bl 16 31) rfl (by kernel_rfl) (by decide) (fun W h => h.holds (Le.refl _) (by first | exact mp rfl | exact mq rfl)) (Yld.eval T rfl rfl) ?_ | refine RAny.tk 4 (bl 16 31) rfl (by kernel_rfl) (by decide) (fun W h => h.holds (Le.refl _) (by first | exact mp rfl | exact mq rfl)) (Yld.off rfl) ?_ | refine RAny.tu 4 (bl 16 31) rfl (by kernel_rfl) (by decide) (fun W h => h.holds (Le.refl _) (by first | exact mp rfl | exact mq rfl)) rfl ?_
      refine RAny.tk 5 (bl 16 63) rfl (by kernel_rfl) (by decide) (fun W h => h.holds (Le.refl _) (by first | exact mp rfl | exact mq rfl)) (Yld.as (v' := .pointer (some ⟨b, off + i * tK2.size, none⟩)) (Yld.indexSl (t := tK2) T rfl rfl rfl rfl rfl rfl (by omega) (by omega)) (by simp)) ?_
      first | refine RAny.tk 6 (bl 16 127) rfl (by kernel_rfl) (by decide) (fun W h => h.holds (Le.refl _) (by first | exact mp rfl | exact mq rfl)) (Yld.eval T rfl rfl) ?_ | refine RAny.tk 6 (bl 16 127) rfl (by kernel_rfl) (by decide) (fun W h => h.holds (Le.refl _) (by first | exact mp rfl | exact mq rfl)) (Yld.off rfl) ?_ | refine RAny.tu 6 (bl 16 127) rfl (by kernel_rfl) (by decide) (fun W h => h.holds (Le.refl _) (by first | exact mp rfl | exact mq rfl)) rfl ?_
      refine RAny.tk 7 (bl 16 255) rfl (by kernel_rfl) (by decide) (fun W h => h.holds (Le.refl _) (by first | exact mp rfl | exact mq rfl)) (Yld.loadI T (hA.cellAt 0 rfl) rfl rfl rfl) ?_
      first | refine RAny.tk 8 (bl 16 511) rfl (by kernel_rfl) (by decide) (fun W h => h.holds (Le.refl _) (by first | exact mp rfl | exact mq rfl)) (Yld.eval T rfl rfl) ?_ | refine RAny.tk 8 (bl 16 511) rfl (by kernel_rfl) (by decide) (fun W h => h.holds (Le.refl _) (by first | exact mp rfl | exact mq rfl)) (Yld.off rfl) ?_ | refine RAny.tu 8 (bl 16 511) rfl (by kernel_rfl) (by decide) (fun W h => h.holds (Le.refl _) (by first | exact mp rfl | exact mq rfl)) rfl ?_
      first | refine RAny.tk 9 (bl 16 1023) rfl (by kernel_rfl) (by decide) (fun W h => h.holds (Le.refl _) (by first | exact mp rfl | exact mq rfl)) (Yld.eval T rfl rfl) ?_ | refine RAny.tk 9 (bl 16 1023) rfl (by kernel_rfl) (by decide) (fun W h => h.holds (Le.refl _) (by first | exact mp rfl | exact mq rfl)) (Yld.off rfl) ?_ | refine RAny.tu 9 (bl 16 1023) rfl (by kernel_rfl) (by decide) (fun W h => h.holds (Le.refl _) (by first | exact mp rfl | exact mq rfl)) rfl ?_
      refine RAny.tk 10 (bl 16 2047) rfl (by kernel_rfl) (by decide) (fun W h => h.holds (Le.refl _) (by first | exact mp rfl | exact mq rfl)) (Yld.sub rfl rfl rfl (wI (by omega) (by omega))) ?_
      refine RAny.tk 11 (bl 16 4095) rfl (by kernel_rfl) (by decide) (fun W h => h.holds (Le.refl _) (by first | exact mp rfl | exact mq rfl)) (Yld.as (v' := .pointer (some ⟨b, off + (i - 1) * tK2.size, none⟩)) (Yld.indexSl (t := tK2) T rfl rfl rfl rfl rfl rfl (by omega) (by omega)) (by simp)) ?_
      first | refine RAny.tk 12 (bl 16 8191) rfl (by kernel_rfl) (by decide) (fun W h => h.holds (Le.refl _) (by first | exact mp rfl | exact mq rfl)) (Yld.eval T rfl rfl) ?_ | refine RAny.tk 12 (bl 16 8191) rfl (by kernel_rfl) (by decide) (fun W h => h.holds (Le.refl _) (by first | exact mp rfl | exact mq rfl)) (Yld.off rfl) ?_ | refine RAny.tu 12 (bl 16 8191) rfl (by kernel_rfl) (by decide) (fun W h => h.holds (Le.refl _) (by first | exact mp rfl | exact mq rfl)) rfl ?_
      refine RAny.tk 13 (bl 16 16383) rfl (by kernel_rfl) (by decide) (fun W h => h.holds (Le.refl _) (by first | exact mp rfl | exact mq rfl)) (Yld.loadI T (hA'.cellAt 0 rfl) rfl rfl rfl) ?_
      cases hle : (Op.bytesLess xs[i].1 xs[i - 1].1 || xs[i].1 == xs[i - 1].1) with
      | true =>
        skip
        refine RAny.tk 14 (bl 16 32767) rfl (by kernel_rfl) (by decide) (fun W h => h.holds (Le.refl _) (by first | exact mp rfl | exact mq rfl)) (Yld.as (v' := .bool true) (Yld.leqS rfl rfl rfl) (by rw [hle])) ?_
        refine RAny.tk 15 (bl 16 65535) rfl (by kernel_rfl) (by decide) (fun W h => h.holds (Le.refl _) (by first | exact mp rfl | exact mq rfl)) (Yld.eval T rfl rfl) ?_
        refine RAny.done _ (by kernel_rfl) ?_
        repeat (first | refine Run.seq ?_ | refine Run.region ?_ | refine Ops.nil ?_ | refine Run.cond_t rfl ?_ | refine Ops.pure T rfl (by decide) rfl ?_)
        refine Run.fin (Run.ret1 (by rw [hCf]; exact func36) results36 rfl (hR _ _ _ ?_))
        exact ⟨rfl, false, rfl, by simp⟩
        skip
      | false =>
        refine RAny.tk 14 (bl 16 32767) rfl (by kernel_rfl) (by decide) (fun W h => h.holds (Le.refl _) (by first | exact mp rfl | exact mq rfl)) (Yld.as (v' := .bool false) (Yld.leqS rfl rfl rfl) (by rw [hle])) ?_
        refine RAny.tk 15 (bl 16 65535) rfl (by kernel_rfl) (by decide) (fun W h => h.holds (Le.refl _) (by first | exact mp rfl | exact mq rfl)) (Yld.eval T rfl rfl) ?_
        refine RAny.done _ (by kernel_rfl) ?_
        repeat (first | refine Run.region ?_ | refine Ops.nil ?_ | refine Run.skip ?_ | refine Run.inBlock ?_ | refine Run.cond_f rfl ?_ | refine Ops.add rfl (by decide) rfl rfl (wI (by first | omega | (simp only [List.length_cons, List.length_nil] ; omega) | (simp; omega)) (by first | omega | (simp only [List.length_cons, List.length_nil] ; omega) | (simp; omega))) ?_ | refine Ops.pure T rfl (by decide) rfl ?_)
        refine Run.keep [0, 5, 6] [_, _, _] rfl ?_
        refine ih (xs.length - (i + 1)) _ _ _ (by omega) ⟨i + 1, rfl, by omega, ?_, by simp, rfl, rfl⟩
        intro j x y hj hx hy
        by_cases hji : j + 1 < i
        · exact hall j x y hji hx hy
        · obtain rfl : i = j + 1 := by omega
          simp only [Nat.add_sub_cancel] at hle
          rw [List.getElem?_eq_getElem (by omega)] at hx hy
          cases hx
          cases hy
          exact bleq_not hle
  · have : i = xs.length := by omega
    subst this
    repeat (first | refine Run.seq ?_ | refine Run.region ?_ | refine Ops.nil ?_ | refine Run.exit rfl ?_ | refine Ops.pure T rfl (by decide) rfl ?_)
    refine Run.fin (Run.ret1 (by rw [hCf]; exact func36) results36 rfl (hR _ _ _ ?_))
    refine ⟨rfl, true, rfl, fun _ j x y hx hy => hall j x y ?_ hx hy⟩
    rcases Nat.lt_or_ge (j + 1) xs.length with h | h
    · exact h
    · rw [List.getElem?_eq_none h] at hy; cases hy
end Go.V
namespace Go.V
open Go.Proofs.Tryz
open Go.RowKit
set_option linter.unusedVariables false
set_option linter.unusedSimpArgs false
set_option maxRecDepth 10000
attribute [local irreducible] Run Ops
def AscT (xs : Txts) : Prop := ∀ i x y, xs[i]? = some x → xs[i + 1]? = some y → x < y
set_option maxHeartbeats 1000000 in
theorem laws_keysGood (I : Imm) (xs : Txts) (v : Value) (hS : Sl tStr I v xs) (hlen : xs.length ≤ 2147483647) : Pure prog 37 [v] I fun w J => ∃ r, w = .bool r ∧ (r = true → AscT xs) := by
  have hS0 := hS
  obtain ⟨A, c, rfl, hc, hrow⟩ := hS0
  refine Spec.enter 24 [(0, _)] func37 rfl ntmps37 (by simp) rfl ?_
  intro C hCf hR hCI
  repeat (first | refine Run.seq ?_ | refine Run.region ?_ | refine Ops.nil ?_ | refine Run.block ?_ | refine Ops.pure T rfl (by decide) rfl ?_)
  refine Run.keep [0, 5, 6] [_, _, _] rfl ?_
  refine Run.rounds (fun m env L J => ∃ i : Nat, m = xs.length - i ∧ i ≤ xs.length ∧ (∀ j x y, j + 1 < i → xs[j]? = some x → xs[j + 1]? = some y → x < y) ∧ env = [(0, .slice A xs.length c), (5, .int .i64 xs.length), (6, .int .i64 i)] ∧ L = [] ∧ J = I) xs.length
    ⟨0, by omega, by omega, by omega, rfl, rfl, rfl⟩ ?_
  rintro m env L J ⟨i, rfl, hi, hall, rfl, rfl, rfl⟩ ih
  repeat (first | refine Run.seq ?_ | refine Run.region ?_ | refine Ops.nil ?_ | refine Ops.lss rfl (by decide) rfl rfl ?_)
  refine Run.cond rfl rfl (fun h => ?_) (fun h => ?_)
  all_goals (try rw [h])
  all_goals (try simp only [decide_eq_true_eq, decide_eq_false_iff_not, Bool.not_eq_true', Bool.not_eq_false', Bool.and_eq_true, Bool.or_eq_true, Bool.and_eq_false_imp, Bool.or_eq_false_iff] at h)
  · have hi' : i < xs.length := by omega
    repeat (first | refine Run.seq ?_ | refine Run.region ?_ | refine Ops.nil ?_ | refine Run.skip ?_ | refine Run.block ?_ | refine Ops.pure T rfl (by decide) rfl ?_)
    rcases Nat.eq_zero_or_pos i with rfl | hpos
    · skip
      refine Run.regionAny (Holds J []) (bl 14 0) (by kernel_rfl) (by kernel_rfl) ?_
      refine RAny.tk 0 (bl 14 1) rfl (by kernel_rfl) (by decide) (fun W h => h.holds (Le.refl _) (by first | exact mp rfl | exact mq rfl)) (Yld.eval T rfl rfl) ?_
      refine RAny.tk 1 (bl 14 3) rfl (by kernel_rfl) (by decide) (fun W h => h.holds (Le.refl _) (by first | exact mp rfl | exact mq rfl)) (Yld.as (v' := .bool false) (Yld.gtr rfl rfl rfl) (by simp)) ?_
      refine RAny.tk 2 (bl 14 7) rfl (by kernel_rfl) (by decide) (fun W h => h.holds (Le.refl _) (by first | exact mp rfl | exact mq rfl)) (Yld.eval T rfl rfl) ?_
      first | refine RAny.tk 3 (bl 14 15) rfl (by kernel_rfl) (by decide) (fun W h => h.holds (Le.refl _) (by first | exact mp rfl | exact mq rfl)) (Yld.eval T rfl rfl) ?_ | refine RAny.tk 3 (bl 14 15) rfl (by kernel_rfl) (by decide) (fun W h => h.holds (Le.refl _) (by first | exact mp rfl | exact mq rfl)) (Yld.off rfl) ?_ | refine RAny.tu 3 (bl 14 15) rfl (by kernel_rfl) (by decide) (fun W h => h.holds (Le.refl _) (by first | exact mp rfl | exact mq rfl)) rfl ?_
      first | refine RAny.tk 4 (bl 14 31) rfl (by kernel_rfl) (by decide) (fun W h => h.holds (Le.refl _) (by first | exact mp rfl | exact mq rfl)) (Yld.eval T rfl rfl) ?_ | refine RAny.tk 4 (bl 14 31) rfl (by kernel_rfl) (by decide) (fun W h => h.holds (Le.refl _) (by first | exact mp rfl | exact mq rfl)) (Yld.off rfl) ?_ | refine RAny.tu 4 (bl 14 31) rfl (by kernel_rfl) (by decide) (fun W h => h.holds (Le.refl _) (by first | exact mp rfl | exact mq rfl)) rfl ?_
      first | refine RAny.tk 5 (bl 14 63) rfl (by kernel_rfl) (by decide) (fun W h => h.holds (Le.refl _) (by first | exact mp rfl | exact mq rfl)) (Yld.eval T rfl rfl) ?_ | refine RAny.tk 5 (bl 14 63) rfl (by kernel_rfl) (by decide) (fun W h => h.holds (Le.refl _) (by first | exact mp rfl | exact mq rfl)) (Yld.off rfl) ?_ | refine RAny.tu 5 (bl 14 63) rfl (by kernel_rfl) (by decide) (fun W h => h.holds (Le.refl _) (by first | exact mp rfl | exact mq rfl)) rfl ?_
      first | refine RAny.tk 6 (bl 14 127) rfl (by kernel_rfl) (by decide) (fun W h => h.holds (Le.refl _) (by first | exact mp rfl | exact mq rfl)) (Yld.load 0 T rfl rfl rfl rfl rfl) ?_ | refine RAny.tk 6 (bl 14 127) rfl (by kernel_rfl) (by decide) (fun W h => h.holds (Le.refl _) (by first | exact mp rfl | exact mq rfl)) (Yld.load 1 T rfl rfl rfl rfl rfl) ?_ | refine RAny.tk 6 (bl 14 127) rfl (by kernel_rfl) (by decide) (fun W h => h.holds (Le.refl _) (by first | exact mp rfl | exact mq rfl)) (Yld.load 2 T rfl rfl rfl rfl rfl) ?_ | refine RAny.tk 6 (bl 14 127) rfl (by kernel_rfl) (by decide) (fun W h => h.holds (Le.refl _) (by first | exact mp rfl | exact mq rfl)) (Yld.off rfl) ?_ | refine RAny.tu 6 (bl 14 127) rfl (by kernel_rfl) (by decide) (fun W h => h.holds (Le.refl _) (by first | exact mp rfl | exact mq rfl)) rfl ?_
      first | refine RAny.tk 7 (bl 14 255) rfl (by kernel_rfl) (by decide) (fun W h => h.holds (Le.refl _) (by first | exact mp rfl | exact mq rfl)) (Yld.eval T rfl rfl) ?_ | refine RAny.tk 7 (bl 14 255) rfl (by kernel_rfl) (by decide) (fun W h => h.holds (Le.refl _) (by first | exact mp rfl | exact mq rfl)) (Yld.off rfl) ?_ | refine RAny.tu 7 (bl 14 255) rfl (by kernel_rfl) (by decide) (fun W h => h.holds (Le.refl _) (by first | exact mp rfl | exact mq rfl)) rfl ?_
      first | refine RAny.tk 8 (bl 14 511) rfl (by kernel_rfl) (by decide) (fun W h => h.holds (Le.refl _) (by first | exact mp rfl | exact mq rfl)) (Yld.eval T rfl rfl) ?_ | refine RAny.tk 8 (bl 14 511) rfl (by kernel_rfl) (by decide) (fun W h => h.holds (Le.refl _) (by first | exact mp rfl | exact mq rfl)) (Yld.off rfl) ?_ | refine RAny.tu 8 (bl 14 511) rfl (by kernel_rfl) (by decide) (fun W h => h.holds (Le.refl _) (by first | exact mp rfl | exact mq rfl)) rfl ?_
      first | refine RAny.tk 9 (bl 14 1023) rfl (by kernel_rfl) (by decide) (fun W h => h.holds (Le.refl _) (by first | exact mp rfl | exact mq rfl)) (Yld.eval T rfl rfl) ?_ | refine RAny.tk 9 (bl 14 1023) rfl (by kernel_rfl) (by decide) (fun W h => h.holds (Le.refl _) (by first | exact mp rfl | exact mq rfl)) (Yld.off rfl) ?_ | refine RAny.tu 9 (bl 14 1023) rfl (by kernel_rfl) (by decide) (fun W h => h.holds (Le.refl _) (by first | exact mp rfl | exact mq rfl)) rfl ?_
      first | refine RAny.tk 10 (bl 14 2047) rfl (by kernel_rfl) (by decide) (fun W h => h.holds (Le.refl _) (by first | exact mp rfl | exact mq rfl)) (Yld.eval T rfl rfl) ?_ | refine RAny.tk 10 (bl 14 2047) rfl (by kernel_rfl) (by decide) (fun W h => h.holds (Le.refl _) (by first | exact mp rfl | exact mq rfl)) (Yld.off rfl) ?_ | refine RAny.tu 10 (bl 14 2047) rfl (by kernel_rfl) (by decide) (fun W h => h.holds (Le.refl _) (by first | exact mp rfl | exact mq rfl)) rfl ?_
      first | refine RAny.tk 11 (bl 14 4095) rfl (by kernel_rfl) (by decide) (fun W h => h.holds (Le.refl _) (by first | exact mp rfl | exact mq rfl)) (Yld.load 0 T rfl rfl rfl rfl rfl) ?_ | refine RAny.tk 11 (bl 14 4095) rfl (by kernel_rfl) (by decide) (fun W h => h.holds (Le.refl _) (by first | exact mp rfl | exact mq rfl)) (Yld.load 1 T rfl rfl rfl rfl rfl) ?_ | refine RAny.tk 11 (bl 14 4095) rfl (by kernel_rfl) (by decide) (fun W h => h.holds (Le.refl _) (by first | exact mp rfl | exact mq rfl)) (Yld.load 2 T rfl rfl rfl rfl rfl) ?_ | refine RAny.tk 11 (bl 14 4095) rfl (by kernel_rfl) (by decide) (fun W h => h.holds (Le.refl _) (by first | exact mp rfl | exact mq rfl)) (Yld.off rfl) ?_ | refine RAny.tu 11 (bl 14 4095) rfl (by kernel_rfl) (by decide) (fun W h => h.holds (Le.refl _) (by first | exact mp rfl | exact mq rfl)) rfl ?_
      first | refine RAny.tk 12 (bl 14 8191) rfl (by kernel_rfl) (by decide) (fun W h => h.holds (Le.refl _) (by first | exact mp rfl | exact mq rfl)) (Yld.eval T rfl rfl) ?_ | refine RAny.tk 12 (bl 14 8191) rfl (by kernel_rfl) (by decide) (fun W h => h.holds (Le.refl _) (by first | exact mp rfl | exact mq rfl)) (Yld.off rfl) ?_ | refine RAny.tu 12 (bl 14 8191) rfl (by kernel_rfl) (by decide) (fun W h => h.holds (Le.refl _) (by first | exact mp rfl | exact mq rfl)) rfl ?_
      refine RAny.tk 13 (bl 14 16383) rfl (by kernel_rfl) (by decide) (fun W h => h.holds (Le.refl _) (by first | exact mp rfl | exact mq rfl)) (Yld.eval T rfl rfl) ?_
      refine RAny.done _ (by kernel_rfl) ?_
      repeat (first | refine Run.region ?_ | refine Ops.nil ?_ | refine Run.skip ?_ | refine Run.inBlock ?_ | refine Run.cond_f rfl ?_ | refine Ops.add rfl (by decide) rfl rfl (wI (by first | omega | (simp only [List.length_cons, List.length_nil] ; omega) | (simp; omega)) (by first | omega | (simp only [List.length_cons, List.length_nil] ; omega) | (simp; omega))) ?_ | refine Ops.pure T rfl (by decide) rfl ?_)
      refine Run.keep [0, 5, 6] [_, _, _] rfl ?_
      exact ih (xs.length - 1) _ _ _ (by omega) ⟨1, rfl, by omega, by omega, rfl, rfl, rfl⟩
    · rcases hrow with rfl | ⟨b, off, rfl, hrow⟩
      · simp at hi'
      obtain ⟨cs, hr, hA⟩ := hrow i xs[i] (List.getElem?_eq_getElem hi')
      obtain ⟨cs', hr', hA'⟩ := hrow (i - 1) xs[i - 1] (List.getElem?_eq_getElem (by omega))
      obtain rfl : cs = [str xs[i]] := hr
      obtain rfl : cs' = [str xs[i - 1]] := hr'
      refine Run.regionAny (Holds J []) (bl 14 0) (by kernel_rfl) (by kernel_rfl) ?_
      refine RAny.tk 0 (bl 14 1) rfl (by kernel_rfl) (by decide) (fun W h => h.holds (Le.refl _) (by first | exact mp rfl | exact mq rfl)) (Yld.eval T rfl rfl) ?_
      refine RAny.tk 1 (bl 14 3) rfl (by kernel_rfl) (by decide) (fun W h => h.holds (Le.refl _) (by first | exact mp rfl | exact mq rfl)) (Yld.as (v' := .bool true) (Yld.gtr rfl rfl rfl) (by simp; omega)) ?_
      refine RAny.tk 2 (bl 14 7) rfl (by kernel_rfl) (by decide) (fun W h => h.holds (Le.refl _) (by first | exact mp rfl | exact mq rfl)) (Yld.eval T rfl rfl) ?_
      first | refine RAny.tk 3 (bl 14 15) rfl (by kernel_rfl) (by decide) (fun W h => h.holds (Le.refl _) (by first | exact mp rfl | exact mq rfl)) (Yld.eval T rfl rfl) ?_ | refine RAny.tk 3 (bl 14 15) rfl (by kernel_rfl) (by decide) (fun W h => h.holds (Le.refl _) (by first | exact mp rfl | exact mq rfl)) (Yld.off rfl) ?_ | refine RAny.tu 3 (bl 14 15) rfl (by kernel_rfl) (by decide) (fun W h => h.holds (Le.refl _) (by first | exact mp rfl | exact mq rfl)) rfl ?_
      first | refine RAny.tk 4 (bl 14 31) rfl (by kernel_rfl) (by decide) (fun W h => h.holds (Le.refl _) (by first | exact mp rfl | exact mq rfl)) (Yld.eval T rfl rfl) ?_ | refine RAny.tk 4 (bl 14 31) rfl (by kernel_rfl) (by decide) (fun W h => h.holds (Le.refl _) (by first | exact mp rfl | exact mq rfl)) (Yld.off rfl) ?_ | refine RAny.tu 4 (bl 14 31) rfl (by kernel_rfl) (by decide) (fun W h => h.holds (Le.refl _) (by first | exact mp rfl | exact mq rfl)) rfl ?_
      refine RAny.tk 5 (bl 14 63) rfl (by kernel_rfl) (by decide) (fun W h => h.holds (Le.refl _) (by first | exact mp rfl | exact mq rfl)) (Yld.as (v' := .pointer (some ⟨b, off + i * tStr.size, none⟩)) (Yld.indexSl (t := tStr) T rfl rfl rfl rfl rfl rfl (by omega) (by omega)) (by simp)) ?_
      refine RAny.tk 6 (bl 14 127) rfl (by kernel_rfl) (by decide) (fun W h => h.holds (Le.refl _) (by first | exact mp rfl | exact mq rfl)) (Yld.loadI T hA rfl rfl rfl) ?_
      first | refine RAny.tk 7 (bl 14 255) rfl (by kernel_rfl) (by decide) (fun W h => h.holds (Le.refl _) (by first | exact mp rfl | exact mq rfl)) (Yld.eval T rfl rfl) ?_ | refine RAny.tk 7 (bl 14 255) rfl (by kernel_rfl) (by decide) (fun W h => h.holds (Le.refl _) (by first | exact mp rfl | exact mq rfl)) (Yld.off rfl) ?_ | refine RAny.tu 7 (bl 14 255) rfl (by kernel_rfl) (by decide) (fun W h => h.holds (Le.refl _) (by first | exact mp rfl | exact mq rfl)) rfl ?_
      first | refine RAny.tk 8 (bl 14 511) rfl (by kernel_rfl) (by decide) (fun W h => h.holds (Le.refl _) (by first | exact mp rfl | exact mq rfl)) (Yld.eval T rfl rfl) ?_ | refine RAny.tk 8 (bl 14 511) rfl (by kernel_rfl) (by decide) (fun W h => h.holds (Le.refl _) (by first | exact mp rfl | exact mq rfl)) (Yld.off rfl) ?_ | refine RAny.tu 8 (bl 14 511) rfl (by kernel_rfl) (by decide) (fun W h => h.holds (Le.refl _) (by first | exact mp rfl | exact mq rfl)) rfl ?_
      refine RAny.tk 9 (bl 14 1023) rfl (by kernel_rfl) (by decide) (fun W h => h.holds (Le.refl _) (by first | exact mp rfl | exact mq rfl)) (Yld.sub rfl rfl rfl (wI (by omega) (by omega))) ?_
      refine RAny.tk 10 (bl 14 2047) rfl (by kernel_rfl) (by decide) (fun W h => h.holds (Le.refl _) (by first | exact mp rfl | exact mq rfl)) (Yld.as (v' := .pointer (some ⟨b, off + (i - 1) * tStr.size, none⟩)) (Yld.indexSl (t := tStr) T rfl rfl rfl rfl rfl rfl (by omega) (by omega)) (by simp)) ?_
      refine RAny.tk 11 (bl 14 4095) rfl (by kernel_rfl) (by decide) (fun W h => h.holds (Le.refl _) (by first | exact mp rfl | exact mq rfl)) (Yld.loadI T hA' rfl rfl rfl) ?_
      cases hle : (Op.bytesLess xs[i] xs[i - 1] || xs[i] == xs[i - 1]) with
      | true =>
        skip
        refine RAny.tk 12 (bl 14 8191) rfl (by kernel_rfl) (by decide) (fun W h => h.holds (Le.refl _) (by first | exact mp rfl | exact mq rfl)) (Yld.as (v' := .bool true) (Yld.leqS rfl rfl rfl) (by rw [hle])) ?_
        refine RAny.tk 13 (bl 14 16383) rfl (by kernel_rfl) (by decide) (fun W h => h.holds (Le.refl _) (by first | exact mp rfl | exact mq rfl)) (Yld.eval T rfl rfl) ?_
        refine RAny.done _ (by kernel_rfl) ?_
        repeat (first | refine Run.seq ?_ | refine Run.region ?_ | refine Ops.nil ?_ | refine Run.cond_t rfl ?_ | refine Ops.pure T rfl (by decide) rfl ?_)
        refine Run.fin (Run.ret1 (by rw [hCf]; exact func37) results37 rfl (hR _ _ _ ?_))
        exact ⟨rfl, false, rfl, by simp⟩
        skip
      | false =>
        refine RAny.tk 12 (bl 14 8191) rfl (by kernel_rfl) (by decide) (fun W h => h.holds (Le.refl _) (by first | exact mp rfl | exact mq rfl)) (Yld.as (v' := .bool false) (Yld.leqS rfl rfl rfl) (by rw [hle])) ?_
        refine RAny.tk 13 (bl 14 16383) rfl (by kernel_rfl) (by decide) (fun W h => h.holds (Le.refl _) (by first | exact mp rfl | exact mq rfl)) (Yld.eval T rfl rfl) ?_
        refine RAny.done _ (by kernel_rfl) ?_
        repeat (first | refine Run.region ?_ | refine Ops.nil ?_ | refine Run.skip ?_ | refine Run.inBlock ?_ | refine Run.cond_f rfl ?_ | refine Ops.add rfl (by decide) rfl rfl (wI (by first | omega | (simp only [List.length_cons, List.length_nil] ; omega) | (simp; omega)) (by first | omega | (simp only [List.length_cons, List.length_nil] ; omega) | (simp; omega))) ?_ | refine Ops.pure T rfl (by decide) rfl ?_)
        refine Run.keep [0, 5, 6] [_, _, _] rfl ?_
        refine ih (xs.length - (i + 1)) _ _ _ (by omega) ⟨i + 1, rfl, by omega, ?_, by simp, rfl, rfl⟩
        intro j x y hj hx hy
        by_cases hji : j + 1 < i
        · exact hall j x y hji hx hy
        · obtain rfl : i = j + 1 := by omega
          simp only [Nat.add_sub_cancel] at hle
          rw [List.getElem?_eq_getElem (by omega)] at hx hy
          cases hx
          cases hy
          exact bleq_not hle
  · have : i = xs.length := by omega
    subst this
    repeat (first | refine Run.seq ?_ | refine Run.region ?_ | refine Ops.nil ?_ | refine Run.exit rfl ?_ | refine Ops.pure T rfl (by decide) rfl ?_)
    refine Run.fin (Run.ret1 (by rw [hCf]; exact func37) results37 rfl (hR _ _ _ ?_))
    refine ⟨rfl, true, rfl, fun _ j x y hx hy => hall j x y ?_ hx hy⟩
    rcases Nat.lt_or_ge (j + 1) xs.length with h | h
    · exact h
    · rw [List.getElem?_eq_none h] at hy; cases hy
end Go.V
namespace Go.V
open Go.Proofs.Tryz
open Go.RowKit
set_option linter.unusedVariables false
set_option linter.unusedSimpArgs false
set_option maxRecDepth 10000
attribute [local irreducible] Run Ops
def Pf.ds (p : Pf) (f g : Value) : List Value := [str p.arch, str p.os, str p.ver, f, str p.var, g]
def k2 (x : K2) : Value := .agg [str x.1, str x.2].toArray
theorem impl_platformOf (I : Imm) (p : Pf) (A A' : Option Addr) (a a' c c' : Nat) : Pure prog 68 [.agg (p.ds (.slice A a c) (.slice A' a' c')).toArray] I fun v J => v = .agg (p.cs (.slice A a c) (.slice A' a' c')).toArray := by
  refine Spec.enter 16 [(0, _)] func68 rfl ntmps68 (by simp) rfl ?_
  intro C hCf hR hCI
  repeat (first | refine Run.seq ?_ | refine Run.region ?_)
  refine Ops.box rfl (by decide) rfl rfl (fun b => ?_)
  refine Ops.alloc rfl (by decide) (T.zeroOk rfl) rfl (fun b2 => ?_)
  repeat (first | refine Run.seq ?_ | refine Run.region ?_ | refine Ops.nil ?_ | refine Ops.pure T rfl (by decide) rfl ?_ | refine Ops.load 1 rfl (by decide) rfl rfl (T.aggOk rfl) rfl ?_)
  refine Ops.buildL bd64 rfl (by decide) rfl rfl ?_
  repeat (first | refine Ops.nil ?_ | refine Ops.store 0 rfl rfl rfl rfl rfl (T.sizeOk rfl) rfl (Nat.le_of_ble_eq_true rfl) rfl rfl ?_)
  refine Run.retC T 0 (by rw [hCf]; exact func68) results68 rfl rfl rfl rfl rfl rfl (hR _ _ _ ?_)
  exact ⟨rfl, rfl⟩
theorem laws_sameTexts (a b : List (List UInt8)) (v w : Value) (I : Imm) (ha : Sl tStr I v a) (hb : Sl tStr I w b) (hal : a.length ≤ 4611686018427387904) : Pure prog 69 [v, w] I fun u J => u = .bool (decide (a = b)) := by
  refine Spec.enter 26 [(0, _), (1, _)] func69 rfl ntmps69 (by simp) rfl ?_
  intro C hCf hR hCI
  repeat (first | refine Run.seq ?_ | refine Run.region ?_ | refine Ops.nil ?_ | refine Ops.pure T rfl (by decide) rfl ?_)
  refine Ops.lenSl (ha) rfl (by decide) rfl (T.undOk rfl) ?_
  repeat (first | refine Ops.pure T rfl (by decide) rfl ?_)
  refine Ops.lenSl (hb) rfl (by decide) rfl (T.undOk rfl) ?_
  repeat (first | refine Ops.nil ?_ | refine Ops.neq rfl (by decide) rfl rfl ?_)
  refine Run.cond rfl rfl (fun hlen => ?_) (fun hlen => ?_)
  all_goals (try rw [hlen])
  all_goals (try simp only [decide_eq_true_eq, decide_eq_false_iff_not, Bool.not_eq_true', Bool.not_eq_false', Bool.and_eq_true, Bool.or_eq_true, Bool.and_eq_false_imp, Bool.or_eq_false_iff] at hlen)
  · skip
    repeat (first | refine Run.seq ?_ | refine Run.region ?_ | refine Ops.nil ?_ | refine Ops.pure T rfl (by decide) rfl ?_)
    refine Run.fin (Run.ret1 (by rw [hCf]; exact func69) results69 rfl (hR _ _ _ ?_))
    refine ⟨rfl, ?_⟩
    rw [decide_eq_false (fun h => hlen (by rw [h]))]
  · skip
    repeat (first | refine Run.seq ?_ | refine Run.region ?_ | refine Run.skip ?_ | refine Ops.pure T rfl (by decide) rfl ?_)
    refine Ops.lenSl (ha) rfl (by decide) rfl (T.undOk rfl) ?_
    repeat (first | refine Ops.nil ?_ | refine Run.block ?_ | refine Ops.pure T rfl (by decide) rfl ?_)
    refine Run.keep [0, 1, 12, 13, 14] [_, _, _, _, _] rfl ?_
    refine Run.rounds (fun m env L J => ∃ i : Nat, m = a.length - i ∧ i ≤ a.length ∧ a.take i = b.take i ∧ env = [(0, v), (1, w), (12, v), (13, .int .i64 a.length), (14, .int .i64 i)] ∧ L = [] ∧ J = I) a.length ⟨0, by omega, by omega, by simp, rfl, rfl, rfl⟩ ?_
    rintro m env L J ⟨i, rfl, hi, heq, rfl, rfl, rfl⟩ ih
    have hlen' : a.length = b.length := by omega
    repeat (first | refine Run.seq ?_ | refine Run.region ?_ | refine Ops.nil ?_ | refine Ops.lss rfl (by decide) rfl rfl ?_)
    refine Run.cond rfl rfl (fun h => ?_) (fun h => ?_)
    all_goals (try rw [h])
    all_goals (try simp only [decide_eq_true_eq, decide_eq_false_iff_not, Bool.not_eq_true', Bool.not_eq_false', Bool.and_eq_true, Bool.or_eq_true, Bool.and_eq_false_imp, Bool.or_eq_false_iff] at h)
    · have hi' : i < a.length := by omega
      repeat (first | refine Run.seq ?_ | refine Run.region ?_ | refine Run.skip ?_ | refine Run.block ?_ | refine Ops.pure T rfl (by decide) rfl ?_)
      refine Ops.indexSl ha rfl (by decide) rfl rfl (T.undOk rfl) (T.sizeOk rfl) (by first | omega | (simp only [List.length_cons, List.length_nil] ; omega) | (simp; omega)) (by first | omega | (simp only [List.length_cons, List.length_nil] ; omega) | (simp; omega)) ?_
      rintro b_ off_ x cs_ hx hr_ hA_
      obtain rfl : cs_ = [_] := hr_
      refine Ops.loadI rfl (by decide) rfl hA_ (T.aggOk rfl) ?_
      repeat (first | refine Run.seq ?_ | refine Run.region ?_ | refine Ops.nil ?_ | refine Ops.pure T rfl (by decide) rfl ?_)
      refine Ops.indexSl hb rfl (by decide) rfl rfl (T.undOk rfl) (T.sizeOk rfl) (by first | omega | (simp only [List.length_cons, List.length_nil] ; omega) | (simp; omega)) (by first | omega | (simp only [List.length_cons, List.length_nil] ; omega) | (simp; omega)) ?_
      rintro b_ off_ y cs_ hy hr_ hA_
      obtain rfl : cs_ = [_] := hr_
      refine Ops.loadI rfl (by decide) rfl hA_ (T.aggOk rfl) ?_
      rw [Int.toNat_natCast] at hx hy
      repeat (first | refine Ops.nil ?_ | refine Ops.neqStr rfl (by decide) rfl rfl ?_ | refine Ops.pure T rfl (by decide) rfl ?_)
      refine Run.cond rfl rfl (fun h2 => ?_) (fun h2 => ?_)
      all_goals (try rw [h2])
      all_goals (try simp only [decide_eq_true_eq, decide_eq_false_iff_not, Bool.not_eq_true', Bool.not_eq_false', Bool.and_eq_true, Bool.or_eq_true, Bool.and_eq_false_imp, Bool.or_eq_false_iff] at h2)
      · skip
        repeat (first | refine Run.seq ?_ | refine Run.region ?_ | refine Ops.nil ?_ | refine Ops.pure T rfl (by decide) rfl ?_)
        refine Run.fin (Run.ret1 (by rw [hCf]; exact func69) results69 rfl (hR _ _ _ ?_))
        refine ⟨rfl, ?_⟩
        rw [decide_eq_false]
        intro hab
        subst hab
        rw [hx] at hy; cases hy
        exact h2 rfl
      · subst h2
        repeat (first | refine Run.region ?_ | refine Ops.nil ?_ | refine Run.skip ?_ | refine Run.inBlock ?_ | refine Ops.add rfl (by decide) rfl rfl (wI (by first | omega | (simp only [List.length_cons, List.length_nil] ; omega) | (simp; omega)) (by first | omega | (simp only [List.length_cons, List.length_nil] ; omega) | (simp; omega))) ?_ | refine Ops.pure T rfl (by decide) rfl ?_)
        refine Run.keep [0, 1, 12, 13, 14] [_, _, _, _, _] rfl ?_
        refine ih (a.length - (i + 1)) _ _ _ (by omega) ⟨i + 1, rfl, by omega, ?_, rfl, rfl, rfl⟩
        rw [List.take_add_one, List.take_add_one, heq, hx, hy]
    · have hi' : i = a.length := by omega
      subst hi'
      repeat (first | refine Run.seq ?_ | refine Run.region ?_ | refine Ops.nil ?_ | refine Run.exit rfl ?_ | refine Ops.pure T rfl (by decide) rfl ?_)
      refine Run.fin (Run.ret1 (by rw [hCf]; exact func69) results69 rfl (hR _ _ _ ?_))
      refine ⟨rfl, ?_⟩
      rw [decide_eq_true]
      rw [List.take_length, hlen', List.take_length] at heq
      exact heq
theorem laws_samePlatform (p q : Pf) (f g f' g' : List (List UInt8)) (u v u' v' : Value) (I : Imm) (hf : Sl tStr I u f) (hg : Sl tStr I v g) (hf' : Sl tStr I u' f') (hg' : Sl tStr I v' g') (h1 : f.length ≤ 2147483647) (h2 : g.length ≤ 2147483647) (o1 : one [u, v] = true) (o2 : one [u', v'] = true) :
    Pure prog 28 [.agg (p.cs u v).toArray, .agg (q.cs u' v').toArray] I fun w J => w = .bool (decide (p = q ∧ f = f' ∧ g = g')) := by
  obtain ⟨p1, p2, p3, p4⟩ := p
  obtain ⟨q1, q2, q3, q4⟩ := q
  refine Spec.enter 45 [(0, _), (1, _)] func28 rfl ntmps28 (by simp) rfl ?_
  intro C hCf hR hCI
  repeat (first | refine Run.seq ?_ | refine Run.region ?_)
  refine Ops.box rfl (by decide) rfl rfl (fun b1 => ?_)
  refine Ops.box rfl (by decide) rfl rfl (fun b2 => ?_)
  repeat (first | refine Run.seq ?_ | refine Run.region ?_ | refine Ops.nil ?_ | refine Ops.eqlStr rfl (by decide) rfl rfl ?_ | refine Ops.pure T rfl (by decide) rfl ?_ | refine Ops.load 0 rfl (by decide) rfl rfl (T.aggOk rfl) rfl ?_ | refine Ops.load 1 rfl (by decide) rfl rfl (T.aggOk rfl) rfl ?_)
  cases hb1 : decide (p2 = q2) with
  | false =>
    repeat (first | refine Ops.nil ?_ | refine Ops.not rfl (by decide) ?_ | refine Ops.pure T rfl (by decide) rfl ?_)
    refine Run.fin (Run.ret1 (by rw [hCf]; exact func28) results28 rfl (hR _ _ _ ?_))
    refine ⟨rfl, ?_⟩
    rw [decide_eq_false (fun h => (of_decide_eq_false hb1) (by simp at h; simp [h]))]
  | true =>
  have hc1 := of_decide_eq_true hb1
  repeat (first | refine Ops.eqlStr rfl (by decide) rfl rfl ?_ | refine Ops.pure T rfl (by decide) rfl ?_ | refine Ops.load 0 rfl (by decide) rfl rfl (T.aggOk rfl) rfl ?_ | refine Ops.load 1 rfl (by decide) rfl rfl (T.aggOk rfl) rfl ?_)
  cases hb2 : decide (p1 = q1) with
  | false =>
    repeat (first | refine Ops.nil ?_ | refine Ops.not rfl (by decide) ?_ | refine Ops.pure T rfl (by decide) rfl ?_)
    refine Run.fin (Run.ret1 (by rw [hCf]; exact func28) results28 rfl (hR _ _ _ ?_))
    refine ⟨rfl, ?_⟩
    rw [decide_eq_false (fun h => (of_decide_eq_false hb2) (by simp at h; simp [h]))]
  | true =>
  have hc2 := of_decide_eq_true hb2
  repeat (first | refine Ops.eqlStr rfl (by decide) rfl rfl ?_ | refine Ops.pure T rfl (by decide) rfl ?_ | refine Ops.load 0 rfl (by decide) rfl rfl (T.aggOk rfl) rfl ?_ | refine Ops.load 1 rfl (by decide) rfl rfl (T.aggOk rfl) rfl ?_)
  cases hb3 : decide (p4 = q4) with
  | false =>
    repeat (first | refine Ops.nil ?_ | refine Ops.not rfl (by decide) ?_ | refine Ops.pure T rfl (by decide) rfl ?_)
    refine Run.fin (Run.ret1 (by rw [hCf]; exact func28) results28 rfl (hR _ _ _ ?_))
    refine ⟨rfl, ?_⟩
    rw [decide_eq_false (fun h => (of_decide_eq_false hb3) (by simp at h; simp [h]))]
  | true =>
  have hc3 := of_decide_eq_true hb3
  repeat (first | refine Ops.eqlStr rfl (by decide) rfl rfl ?_ | refine Ops.pure T rfl (by decide) rfl ?_ | refine Ops.load 0 rfl (by decide) rfl rfl (T.aggOk rfl) rfl ?_ | refine Ops.load 1 rfl (by decide) rfl rfl (T.aggOk rfl) rfl ?_)
  cases hb4 : decide (p3 = q3) with
  | false =>
    repeat (first | refine Ops.nil ?_ | refine Ops.not rfl (by decide) ?_ | refine Ops.pure T rfl (by decide) rfl ?_)
    refine Run.fin (Run.ret1 (by rw [hCf]; exact func28) results28 rfl (hR _ _ _ ?_))
    refine ⟨rfl, ?_⟩
    rw [decide_eq_false (fun h => (of_decide_eq_false hb4) (by simp at h; simp [h]))]
  | true =>
  have hc4 := of_decide_eq_true hb4
  repeat (first | refine Ops.pure T rfl (by decide) rfl ?_ | refine Ops.load 0 rfl (by decide) rfl rfl (T.aggOk rfl) rfl ?_ | refine Ops.load 1 rfl (by decide) rfl rfl (T.aggOk rfl) rfl ?_)
  refine Ops.call ((laws_sameTexts g g' v v' I hg hg' (by omega))) rfl (by decide) call69 rfl ?_
  rintro _ J hle rfl
  repeat (first | refine Ops.pure T rfl (by decide) rfl ?_)
  cases hb5 : decide (g = g') with
  | false =>
    repeat (first | refine Ops.nil ?_ | refine Ops.not rfl (by decide) ?_ | refine Ops.pure T rfl (by decide) rfl ?_)
    refine Run.fin (Run.ret1 (by rw [hCf]; exact func28) results28 rfl (hR _ _ _ ?_))
    refine ⟨rfl, ?_⟩
    rw [decide_eq_false (fun h => (of_decide_eq_false hb5) (by simp at h; simp [h]))]
  | true =>
  have hc5 := of_decide_eq_true hb5
  repeat (first | refine Ops.pure T rfl (by decide) rfl ?_ | refine Ops.load 0 rfl (by decide) rfl rfl (T.aggOk rfl) rfl ?_ | refine Ops.load 1 rfl (by decide) rfl rfl (T.aggOk rfl) rfl ?_)
  refine Ops.call ((laws_sameTexts f f' u u' J (hf.mono hle) (hf'.mono hle) (by omega))) rfl (by decide) call69 rfl ?_
  rintro _ J2 hle2 rfl
  repeat (first | refine Ops.nil ?_ | refine Ops.pure T rfl (by decide) rfl ?_)
  refine Run.fin (Run.ret1 (by rw [hCf]; exact func28) results28 rfl (hR _ _ _ ?_))
  refine ⟨rfl, ?_⟩
  subst hc1; subst hc2; subst hc3; subst hc4; subst hc5
  simp
theorem impl_copied (I : Imm) (xs : List (List UInt8)) (v : Value) (h : Sl tStr I v xs) (hlen : xs.length ≤ 2147483647) : Pure prog 108 [v] I fun w J => Sl tStr J w xs := by
  have h0 := h
  obtain ⟨A, c, rfl, hc, hrow⟩ := h0
  refine Spec.enter 8 [(0, _)] func108 rfl ntmps108 (by simp) rfl ?_
  intro C hCf hR hCI
  repeat (first | refine Run.seq ?_ | refine Run.region ?_ | refine Ops.nil ?_ | refine Ops.eqlNil T rfl (by decide) rfl rfl rfl rfl rfl ?_ | refine Ops.pure T rfl (by decide) rfl ?_)
  cases A with
  | none =>
    have : xs = [] := by
      rcases hrow with h | ⟨b, off, h, _⟩
      · exact h
      · cases h
    subst this
    repeat (first | refine Run.seq ?_ | refine Run.region ?_ | refine Ops.nil ?_ | refine Run.cond_t rfl ?_ | refine Ops.pure T rfl (by decide) rfl ?_)
    refine Run.fin (Run.ret1 (by rw [hCf]; exact func108) results108 rfl (hR _ _ _ ?_))
    exact ⟨rfl, Sl.nil _ _⟩
  | some a =>
    repeat (first | refine Run.seq ?_ | refine Run.region ?_ | refine Run.skip ?_ | refine Run.cond_f rfl ?_)
    refine Ops.lit T rfl rfl rfl (by decide) rfl (by decide) (by decide) rfl rfl rfl rfl rfl (fun b => ?_)
    repeat (first | refine Ops.pure T rfl (by decide) rfl ?_)
    refine Ops.appSl (N := []) el24 (Gr.lit0 tStr I _ b) h (fun _ h => h.one_str) rfl (by decide) rfl rfl rfl (by simp; omega) (by simp; omega) ?_
    rintro v' M' hG
    refine Ops.keepG (N := []) hG rfl fun J hle hS => ?_
    repeat (first | refine Ops.nil ?_ | refine Ops.pure T rfl (by decide) rfl ?_)
    refine Run.fin (Run.ret1 (by rw [hCf]; exact func108) results108 rfl (hR _ _ _ ?_))
    exact ⟨rfl, by simpa using hS⟩
theorem Hash_to (I : Imm) (x : K2) : Pure prog 110 [k2 x] I fun w J => w = k2 x := by
  refine Spec.enter 4 [(0, _)] func110 rfl ntmps110 (by simp) rfl ?_
  intro C hCf hR hCI
  repeat (first | refine Run.seq ?_ | refine Run.region ?_)
  refine Ops.box rfl (by decide) rfl rfl (fun b => ?_)
  refine Ops.alloc rfl (by decide) (T.zeroOk rfl) rfl (fun b2 => ?_)
  repeat (first | refine Run.seq ?_ | refine Run.region ?_ | refine Ops.nil ?_ | refine Ops.loadN 1 rfl (by decide) rfl rfl (T.aggOk rfl) (T.sizeOk rfl) rfl rfl ?_ | refine Ops.store 0 rfl rfl rfl rfl rfl (T.sizeOk rfl) rfl (Nat.le_of_ble_eq_true rfl) rfl rfl ?_)
  refine Run.retC T 0 (by rw [hCf]; exact func110) results110 rfl rfl rfl rfl rfl rfl (hR _ _ _ ?_)
  exact ⟨rfl, rfl⟩
def pget (k : List UInt8) : List K2 → Option (List UInt8)
  | [] => none
  | p :: r => match pget k r with
    | some v => some v
    | none => if p.1 = k then some p.2 else none
theorem pget_snoc (k : List UInt8) (p : K2) : ∀ xs, pget k (xs ++ [p]) = if p.1 = k then some p.2 else pget k xs
  | [] => by simp [pget]
  | q :: r => by
    simp only [List.cons_append, pget, pget_snoc k p r]
    by_cases h : p.1 = k
    · simp [h]
    · simp [h]
def PMap (J : Imm) (w : Value) (xs : List K2) : Prop := (w = .map none ∧ xs = []) ∨ ∃ b o mp, w = .map (some b) ∧ J b = some o ∧ Mp o mp ∧ ∀ k, mget k mp = (pget k xs).map str
theorem PMap.mono {I J : Imm} {w : Value} {xs : List K2} (h : PMap I w xs) (hle : Le I J) : PMap J w xs := by
  rcases h with h | ⟨b, o, mp, h1, h2, h3⟩
  · exact .inl h
  · exact .inr ⟨b, o, mp, h1, hle _ _ h2, h3⟩
theorem mget_mset (k x : List UInt8) (v : Value) : ∀ m : KV, mget x (mset k v m) = if k = x then some v else mget x m
  | [] => by simp [mset, mget]
  | (k', v') :: r => by
    simp only [mset]
    by_cases h : k' = k
    · subst h
      rw [if_pos rfl]
      simp only [mget]
      by_cases e : k' = x <;> simp [e]
    · rw [if_neg h]
      simp only [mget, mget_mset k x v r]
      by_cases h1 : k' = x
      · subst h1
        rw [if_pos rfl, if_pos rfl, if_neg (fun e => h e.symm)]
      · rw [if_neg h1, if_neg h1]
theorem impl_mapOf (I : Imm) (xs : List K2) (v : Value) (hS : Sl tK2 I v xs) (hlen : xs.length ≤ 2147483647) : Pure prog 103 [v] I fun w J => PMap J w xs := by
  have hS0 := hS
  obtain ⟨A, c, rfl, hc, hrow⟩ := hS0
  refine Spec.enter 22 [(0, _)] func103 rfl ntmps103 (by simp) rfl ?_
  intro C hCf hR hCI
  repeat (first | refine Run.seq ?_ | refine Run.region ?_ | refine Ops.nil ?_ | refine Ops.eqlNil T rfl (by decide) rfl rfl rfl rfl rfl ?_ | refine Ops.pure T rfl (by decide) rfl ?_)
  cases A with
  | none =>
    have : xs = [] := by
      rcases hrow with h | ⟨b, off, h, _⟩
      · exact h
      · cases h
    subst this
    repeat (first | refine Run.seq ?_ | refine Run.region ?_ | refine Ops.nil ?_ | refine Run.cond_t rfl ?_ | refine Ops.pure T rfl (by decide) rfl ?_)
    refine Run.fin (Run.ret1 (by rw [hCf]; exact func103) results103 rfl (hR _ _ _ ?_))
    exact ⟨rfl, .inl ⟨rfl, rfl⟩⟩
  | some a =>
    repeat (first | refine Run.seq ?_ | refine Run.region ?_ | refine Run.skip ?_ | refine Run.cond_f rfl ?_)
    refine Ops.makeMap rfl (by decide) (fun b => ?_)
    repeat (first | refine Run.seq ?_ | refine Run.region ?_ | refine Ops.nil ?_ | refine Run.block ?_ | refine Ops.pure T rfl (by decide) rfl ?_)
    refine Run.keep [3, 9, 10, 11] [_, _, _, _] rfl ?_
    refine Run.rounds (fun m env L J => ∃ (i : Nat) (o : Obj) (mp : KV), m = xs.length - i ∧ i ≤ xs.length ∧ Mp o mp ∧ (∀ k, mget k mp = (pget k (xs.take i)).map str) ∧ env = [(3, .map (some b)), (9, .slice (some a) xs.length c), (10, .int .i64 xs.length), (11, .int .i64 i)] ∧ L = [(b, o)] ∧ J = I) xs.length
      ⟨0, _, [], by omega, by omega, Mp.new, by simp [mget, pget], rfl, rfl, rfl⟩ ?_
    rintro m env L J ⟨i, o, mp, rfl, hi, hM, hget, rfl, rfl, rfl⟩ ih
    repeat (first | refine Run.seq ?_ | refine Run.region ?_ | refine Ops.nil ?_ | refine Ops.lss rfl (by decide) rfl rfl ?_)
    refine Run.cond rfl rfl (fun h => ?_) (fun h => ?_)
    all_goals (try rw [h])
    all_goals (try simp only [decide_eq_true_eq, decide_eq_false_iff_not, Bool.not_eq_true', Bool.not_eq_false', Bool.and_eq_true, Bool.or_eq_true, Bool.and_eq_false_imp, Bool.or_eq_false_iff] at h)
    · skip
      repeat (first | refine Run.seq ?_ | refine Run.region ?_ | refine Run.skip ?_ | refine Run.block ?_)
      refine Ops.indexSl hS rfl (by decide) rfl rfl (T.undOk rfl) (T.sizeOk rfl) (by omega) (by omega) ?_
      rintro b_ off_ x cs_ hx hr_ hA_
      obtain rfl : cs_ = [str x.1, str x.2] := hr_
      rw [Int.toNat_natCast] at hx
      refine Ops.loadIN rfl (by decide) rfl (hA_) (T.aggOk rfl) (T.sizeOk rfl) rfl ?_
      refine Ops.alloc rfl (by decide) (T.zeroOk rfl) rfl (fun b2 => ?_)
      repeat (first | refine Run.region ?_ | refine Ops.nil ?_ | refine Ops.pure T rfl (by decide) rfl ?_ | refine Ops.load 0 rfl (by decide) rfl rfl (T.aggOk rfl) rfl ?_ | refine Ops.store 0 rfl rfl rfl rfl rfl (T.sizeOk rfl) rfl (Nat.le_of_ble_eq_true rfl) rfl rfl ?_)
      refine Ops.mapSet 1 T hM rfl rfl rfl rfl rfl rfl rfl ?_
      intro o' hM'
      repeat (first | refine Run.region ?_ | refine Ops.nil ?_ | refine Run.inBlock ?_ | refine Ops.add rfl (by decide) rfl rfl (wI (by first | omega | (simp only [List.length_cons, List.length_nil] ; omega) | (simp; omega)) (by first | omega | (simp only [List.length_cons, List.length_nil] ; omega) | (simp; omega))) ?_ | refine Ops.pure T rfl (by decide) rfl ?_)
      refine Run.dropL (List.sublist_cons_self _ _) ?_
      refine Run.keep [3, 9, 10, 11] [_, _, _, _] rfl ?_
      refine ih (xs.length - (i + 1)) _ _ _ (by omega) ⟨i + 1, o', _, rfl, by omega, hM', ?_, rfl, rfl, rfl⟩
      intro k
      rw [mget_mset, hget k, List.take_add_one, hx, Option.toList_some, pget_snoc]
      by_cases e : x.1 = k <;> simp [e]
    · have : i = xs.length := by omega
      subst this
      rw [List.take_length] at hget
      repeat (first | refine Run.seq ?_ | refine Run.region ?_ | refine Ops.nil ?_ | refine Run.exit rfl ?_ | refine Ops.pure T rfl (by decide) rfl ?_)
      refine Run.freeze fun J2 hle hJ => ?_
      refine Run.fin (Run.ret1 (by rw [hCf]; exact func103) results103 rfl (hR _ _ _ ?_))
      exact ⟨rfl, .inr ⟨b, o, mp, rfl, hJ, hM, hget⟩⟩
end Go.V
namespace Go.V
open Go.Proofs.Tryz
open Go.RowKit
set_option linter.unusedVariables false
set_option linter.unusedSimpArgs false
set_option maxRecDepth 10000
attribute [local irreducible] Run Ops QD
def tmC (n : Int) : List Value := [.int .i64 (IntKind.i64.wrap (n + 62135596800)), .int .i64 0, .int .i64 0]
theorem zz_Unix (I : Imm) (n : Int) : Pure prog 130 [.int .i64 n, .int .i64 0] I fun w J => w = .agg (tmC n).toArray := by
  refine Spec.enter 31 [(0, _), (1, _)] func130 rfl ntmps130 (by simp) rfl ?_
  intro C hCf hR hCI
  repeat (first | refine Run.seq ?_)
  refine Run.region ?_
  refine Ops.alloc rfl (by decide) (T.zeroOk rfl) rfl (fun b4 => ?_)
  refine Ops.nil ?_
  repeat (first | refine Run.seq ?_)
  refine Run.regionO (D := [some 6, some 7, some 8, some 9, some 10, some 11]) [true, true, true, true, true, true] rfl rfl rfl (fun Z hZ => ?_)
  refine QD.ev T (by decide) rfl rfl ?_
  refine qf (Ev.lss rfl rfl) (by decide) dc rfl ?_
  refine QD.ev T (by decide) rfl rfl ?_
  first | refine QD.ev T (by decide) rfl rfl ?_ | refine QD.off (by decide) rfl ?_
  refine qf (Ev.geq rfl rfl) (by decide) dc rfl ?_
  refine QD.ev T (by decide) rfl rfl ?_
  refine QD.nil (hZ _ ?_)
  clear hZ Z
  repeat (first | refine Run.seq ?_ | refine Run.skip ?_ | refine Run.cond_f rfl ?_)
  refine Run.regionP (D := [some 27, some 28, some 29, some 30, none]) [true] 1 rfl rfl rfl (by simp only [List.drop_succ_cons, List.drop_zero]; rfl) (fun Z hZ => ?_)
  refine QD.ev T (by decide) rfl rfl ?_
  refine QD.nil (hZ _ ?_)
  clear hZ Z
  refine Ops.ev (Ev.addK rfl rfl rfl) rfl (by decide) ?_
  refine Ops.pure T rfl (by decide) rfl ?_
  refine Ops.buildL bd94 rfl (by decide) rfl rfl ?_
  first | refine Ops.store 0 rfl rfl rfl rfl rfl (T.sizeOk rfl) rfl (Nat.le_of_ble_eq_true rfl) rfl rfl ?_ | refine Ops.store 1 rfl rfl rfl rfl rfl (T.sizeOk rfl) rfl (Nat.le_of_ble_eq_true rfl) rfl rfl ?_ | refine Ops.store 2 rfl rfl rfl rfl rfl (T.sizeOk rfl) rfl (Nat.le_of_ble_eq_true rfl) rfl rfl ?_
  refine Ops.nil ?_
  skip
  refine Run.retC T 0 (by rw [hCf]; exact func130) results130 rfl rfl rfl rfl rfl rfl (hR _ _ _ ?_)
  exact ⟨rfl, rfl⟩
theorem zz_UTC (I : Imm) (a b c : Int) : Pure prog 131 [.agg [.int .i64 a, .int .i64 b, .int .i64 c].toArray] I fun w J => w = .agg [.int .i64 a, .int .i64 b, .int .i64 0].toArray := by
  refine Spec.enter 5 [(0, _)] func131 rfl ntmps131 (by simp) rfl ?_
  intro C hCf hR hCI
  repeat (first | refine Run.seq ?_)
  refine Run.region ?_
  refine Ops.box rfl (by decide) rfl rfl (fun b1 => ?_)
  refine Ops.alloc rfl (by decide) (T.zeroOk rfl) rfl (fun b2 => ?_)
  refine Ops.nil ?_
  repeat (first | refine Run.seq ?_)
  refine Run.region ?_
  refine Ops.pure T rfl (by decide) rfl ?_
  first | refine Ops.store 0 rfl rfl rfl rfl rfl (T.sizeOk rfl) rfl (Nat.le_of_ble_eq_true rfl) rfl rfl ?_ | refine Ops.store 1 rfl rfl rfl rfl rfl (T.sizeOk rfl) rfl (Nat.le_of_ble_eq_true rfl) rfl rfl ?_ | refine Ops.store 2 rfl rfl rfl rfl rfl (T.sizeOk rfl) rfl (Nat.le_of_ble_eq_true rfl) rfl rfl ?_
  refine Ops.nil ?_
  repeat (first | refine Run.seq ?_)
  refine Run.region ?_
  first | refine Ops.loadN 0 rfl (by decide) rfl rfl (T.aggOk rfl) (T.sizeOk rfl) rfl rfl ?_ | refine Ops.loadN 1 rfl (by decide) rfl rfl (T.aggOk rfl) (T.sizeOk rfl) rfl rfl ?_ | refine Ops.loadN 2 rfl (by decide) rfl rfl (T.aggOk rfl) (T.sizeOk rfl) rfl rfl ?_
  first | refine Ops.store 0 rfl rfl rfl rfl rfl (T.sizeOk rfl) rfl (Nat.le_of_ble_eq_true rfl) rfl rfl ?_ | refine Ops.store 1 rfl rfl rfl rfl rfl (T.sizeOk rfl) rfl (Nat.le_of_ble_eq_true rfl) rfl rfl ?_ | refine Ops.store 2 rfl rfl rfl rfl rfl (T.sizeOk rfl) rfl (Nat.le_of_ble_eq_true rfl) rfl rfl ?_
  refine Ops.nil ?_
  skip
  refine Run.retC T 0 (by rw [hCf]; exact func131) results131 rfl rfl rfl rfl rfl rfl (hR _ _ _ ?_)
  exact ⟨rfl, rfl⟩
theorem impl_timeTo (I : Imm) (n : Int) : Pure prog 106 [.int .i64 n] I fun w J => w = .agg (tmC n).toArray := by
  refine Spec.enter 10 [(0, _)] func106 rfl ntmps106 (by simp) rfl ?_
  intro C hCf hR hCI
  repeat (first | refine Run.seq ?_)
  refine Run.region ?_
  refine Ops.alloc rfl (by decide) (T.zeroOk rfl) rfl (fun b2 => ?_)
  refine Ops.nil ?_
  repeat (first | refine Run.seq ?_)
  by_cases h : n = -62135596800
  · subst h
    refine Run.regionO (D := [some 3, some 4]) [true, true] rfl rfl rfl (fun Z hZ => ?_)
    refine QD.ev T (by decide) rfl rfl ?_
    refine QD.e ((Ev.eqlI rfl rfl).as (show _ = Value.bool true from rfl)) (by decide) rfl ?_
    refine QD.nil (hZ _ ?_)
    clear hZ Z
    repeat (first | refine Run.seq ?_ | refine Run.cond_t rfl ?_)
    refine Run.region ?_
    refine Ops.buildL bd96 rfl (by decide) rfl rfl ?_
    first | refine Ops.store 0 rfl rfl rfl rfl rfl (T.sizeOk rfl) rfl (Nat.le_of_ble_eq_true rfl) rfl rfl ?_ | refine Ops.store 1 rfl rfl rfl rfl rfl (T.sizeOk rfl) rfl (Nat.le_of_ble_eq_true rfl) rfl rfl ?_ | refine Ops.store 2 rfl rfl rfl rfl rfl (T.sizeOk rfl) rfl (Nat.le_of_ble_eq_true rfl) rfl rfl ?_
    refine Ops.nil ?_
    skip
    refine Run.retC T 0 (by rw [hCf]; exact func106) results106 rfl rfl rfl rfl rfl rfl (hR _ _ _ ?_)
    exact ⟨rfl, rfl⟩
  · skip
    refine Run.regionO (D := [some 3, some 4]) [true, true] rfl rfl rfl (fun Z hZ => ?_)
    refine QD.ev T (by decide) rfl rfl ?_
    refine qf (Ev.eqlI rfl rfl) (by omega) dc rfl ?_
    refine QD.nil (hZ _ ?_)
    clear hZ Z
    repeat (first | refine Run.seq ?_ | refine Run.skip ?_ | refine Run.cond_f rfl ?_)
    refine Run.regionP (D := [some 6, some 7, some 8, some 9, none]) [true] 1 rfl rfl rfl (by simp only [List.drop_succ_cons, List.drop_zero]; rfl) (fun Z hZ => ?_)
    refine QD.ev T (by decide) rfl rfl ?_
    refine QD.nil (hZ _ ?_)
    clear hZ Z
    refine Ops.call ((zz_Unix I n)) rfl (by decide) call130 rfl ?_
    rintro _ J1 l1 rfl
    refine Ops.call ((zz_UTC J1 _ _ _)) rfl (by decide) call131 rfl ?_
    rintro _ J2 l2 rfl
    refine Ops.buildL bd96 rfl (by decide) rfl rfl ?_
    first | refine Ops.store 0 rfl rfl rfl rfl rfl (T.sizeOk rfl) rfl (Nat.le_of_ble_eq_true rfl) rfl rfl ?_ | refine Ops.store 1 rfl rfl rfl rfl rfl (T.sizeOk rfl) rfl (Nat.le_of_ble_eq_true rfl) rfl rfl ?_ | refine Ops.store 2 rfl rfl rfl rfl rfl (T.sizeOk rfl) rfl (Nat.le_of_ble_eq_true rfl) rfl rfl ?_
    refine Ops.nil ?_
    skip
    refine Run.retC T 0 (by rw [hCf]; exact func106) results106 rfl rfl rfl rfl rfl rfl (hR _ _ _ ?_)
    exact ⟨rfl, rfl⟩
end Go.V
