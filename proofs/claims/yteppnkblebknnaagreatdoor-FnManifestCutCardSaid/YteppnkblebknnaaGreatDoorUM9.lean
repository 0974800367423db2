import Derived.Test.YteppnkblebknnaaGreatDoorUM5
import Derived.Test.YteppnkblebknnaaGreatDoorUM8
import Derived.Test.YteppnkblebknnaaGreatDoorUM4
set_option linter.unusedVariables false
set_option linter.unusedSimpArgs false
namespace Go.V
open Go.RowKit
section
variable {P : Program} {n : Nat} {C : Cx} {k : List Item} {env : Env} {L : Own} {I : Imm} {ops : Array Oper} {i : Nat} {l : List Oper} {S : World → Prop}
variable {ty : TypeId} {ps : String} {af : Array Edge} {g : Option (Nat × Bool)} {d : Nat}
theorem Ev.capV {ts e : TypeId} {x : Operand} {A : Option Addr} {m c : Nat} (T : Tab P) (hu : T.und ts = some (.slice e)) (hx : opnd env x = some (.slice A m c)) : Ev P n env (.call ⟨.builtin .cap, #[x], #[ts]⟩) (.int .i64 (c : Int)) :=
 fun a W he _ _ _ _ _ => by
  simp [execOp, resolve, invoke, builtin, Builtin.cap_, eval_opnd he hx, T.undOk hu, goInt]
theorem run_append_make {ts ti e : TypeId} {iE : TypeInfo} {kd : IntKind} (W : World) (ht : P.underlying ts = some (.slice e)) (hti : P.underlying ti = some (.int kd)) (hi : P.info? e = some iE) (hz : iE.zero = some (.int .u8 0)) (hs : iE.size = 1) (hb : iE.bytes = 1) (q : Nat) (h0 : 0 < q) (hq : q ≤ 140737488355328) :
  (Builtin.append_ #[ts, ti] ty #[.slice none 0 0, .int .i64 (q : Int)]).run P W =
   .ok (.slice (some ⟨W.heap.size, 0, none⟩) q (grownCap W q 0 e)) (W.drew.alloc (.cells (wb (List.replicate (grownCap W q 0 e) 0)).toArray e)) := by
 have hn : ¬ (q ≤ 0) := by omega
 have h63 : ¬ (9223372036854775807 < (q : Int)) := by omega
 have hw : IntKind.i64.wrap (q : Int) = q := wI (by omega) (by omega)
 have hneg : ¬ ((q : Int) < 0) := by omega
 have h48 : ¬ (281474976710656 < (q : Int)) := by omega
 have hnx : Builtin.nextslicecap q 0 = q := by unfold Builtin.nextslicecap; rw [if_pos (by omega)]
 have hq48 : ¬ (281474976710656 < q) := by omega
 have hai : (asInt (.int .i64 (q : Int))).run P W = .ok (q : Int) W := rfl
 have hq0 : q ≠ 0 := by omega
 have hge := grownCap_ge W q 0 e
 have hc : Builtin.zeroCells #[Value.int .u8 0] q ++ Builtin.zeroCells #[Value.int .u8 0] (grownCap W q 0 e - q) = (wb (List.replicate (grownCap W q 0 e) 0)).toArray := by
  apply Array.ext'
  rw [Array.toList_append, zeroCells_u8, zeroCells_u8, ← List.map_append, List.replicate_append_replicate, show q + (grownCap W q 0 e - q) = grownCap W q 0 e by omega]
 rw [← hc]
 simp [Builtin.append_, run_underlying ht, run_underlying hti, sizeOf, typeInfo, zeroValue, hi, hz, hs, hb, hn, h63, hw, hneg, h48, hnx, hq48, hq0, hai, Question.forced, newRow, grownCap, Builtin.firstCells, Value.cells]
theorem Ops.appMake {s x : Operand} {ts ti e : TypeId} {kd : IntKind} {q : Nat} (hE : Bt P ts e) (hti : P.underlying ti = some (.int kd)) (hg : want env ops g = some true) (hd : d < n) (hs : opnd env s = some (.slice none 0 0)) (hx : opnd env x = some (.int .i64 (q : Int))) (h0 : 0 < q) (hq : q ≤ 140737488355328)
  (next : ∀ b c, q ≤ c → c ≤ 9223372036854775807 → Ops P n C ops (i + 1) l k ((d, .slice (some ⟨b, 0, none⟩) q c) :: env) ((b, blk (wb (List.replicate c 0)) e) :: L) I) :
  Ops P n C ops i (⟨some d, .call ⟨.builtin .append, #[s, x], #[ts, ti]⟩, ty, ps, af, g⟩ :: l) k env L I :=
 Ops.valW hg (dOk hd) fun a0 W he hi => by
  obtain ⟨iE, z, hinfo, hzero, hs1, hb1, hzs⟩ := hE.el.info
  obtain ⟨iE', hinfo', hz'⟩ := hE.zero
  obtain rfl : iE' = iE := Option.some.inj (hinfo'.symm.trans hinfo)
  obtain rfl : z = .int .u8 0 := Option.some.inj (hzero.symm.trans hz')
  have hr : (Builtin.append_ #[ts, ti] ty #[.slice none 0 0, .int .i64 (q : Int)]).run P W = .ok (.slice (some ⟨W.heap.size, 0, none⟩) q (grownCap W q 0 e)) (W.drew.alloc (blk (wb (List.replicate (grownCap W q 0 e) 0)) e)) := run_append_make (P := P) (ty := ty) W hE.el.under hti hinfo hzero hs1 hb1 q h0 hq
  have hge := grownCap_ge W q 0 e
  have hle := grownCap_le_maxLen W q 0 e (by unfold maxLen; omega)
  refine ⟨.slice (some ⟨W.heap.size, 0, none⟩) q (grownCap W q 0 e), _, (W.heap.size, blk (wb (List.replicate (grownCap W q 0 e) 0)) e) :: L, I, .inl ?_, hi.drew.alloc _, next _ _ hge (by have : maxLen = 9223372036854775807 := rfl; omega)⟩
  simp [execOp, resolve, Go.invoke, builtin, eval_opnd he hs, eval_opnd he hx, hr]
theorem Ops.makeGr {α : Type} (t : Ty α) {x y : Operand} {ts e : TypeId} {kl kc : IntKind} {c bytes : Nat} (hE : Elem P ts e t.size bytes) (hg : want env ops g = some true) (hd : d < n) (hx : opnd env x = some (.int kl 0)) (hy : opnd env y = some (.int kc (c : Int))) (hc : c ≤ 65536) (hby : (bytes : Int) * (c : Int) ≤ 281474976710656)
  (next : ∀ b M, Gr t I e (.slice (some ⟨b, 0, none⟩) 0 c) [] M → Ops P n C ops (i + 1) l k ((d, .slice (some ⟨b, 0, none⟩) 0 c) :: env) (M ++ L) I) :
  Ops P n C ops i (⟨some d, .makeSlice ts x y, ty, ps, af, g⟩ :: l) k env L I :=
 Ops.valW hg (dOk hd) fun a0 W he hi => by
  obtain ⟨iE, z, hinfo, hzero, hs1, hb1, hzs⟩ := hE.info
  have hr := run_make (P := P) W ts e iE _ hE.under hinfo hzero kl kc 0 (c : Int) (by omega) (by omega) (by rw [hb1]; exact hby) (by omega)
  rw [hs1, Int.toNat_natCast] at hr
  refine ⟨.slice (some ⟨W.heap.size, 0, none⟩) 0 c, _, (W.heap.size, .cells (madeCells z.cells (c * t.size)) e) :: L, I, .inl ?_, hi.alloc _, next W.heap.size [(W.heap.size, .cells (madeCells z.cells (c * t.size)) e)] ⟨[], ⟨by simp, .inr ⟨W.heap.size, c, _, rfl, rfl, Nat.zero_le _, ?_, by simp⟩⟩, Cells.nil t I⟩⟩
  ·simp only [execOp, eval_opnd he hx, eval_opnd he hy, Sem.run_bind, hr, Result.andThen_ok]; rfl
  ·simp [madeCells]
theorem Ops.eqlSame {x y : Operand} {ti t' tp te : TypeId} {ms : Array (String × TypeId)} {ii jj : TypeInfo} {a0 : Addr} (h1 : P.underlying ti = some (.interface ms)) (h2 : P.underlying tp = some (.pointer te)) (h3 : P.info? tp = some ii) (h4 : ii.comparable = true) (h5 : P.info? te = some jj)
  (hg : want env ops g = some true) (hd : d < n) (hx : opnd env x = some (.iface tp (.pointer (some a0)))) (hy : opnd env y = some (.iface tp (.pointer (some a0))))
  (next : Ops P n C ops (i + 1) l k ((d, .bool true) :: env) L I) : Ops P n C ops i (⟨some d, .binOp .eql ti x y t', ty, ps, af, g⟩ :: l) k env L I :=
 Ops.val hg (dOk hd) (fun a W he hi => by
  have e1 := run_equalIn_iface_ptr_same (P := P) W 9998 a0 h1 h2 h3 h4 h5
  have h6 : ∀ c d : Value, (eqGuard .eql ti x y (.iface tp c) d).run P W = .ok () W := fun c d => rfl
  simp [execOp, eval_opnd he hx, eval_opnd he hy, binOp, Op.equal, Op.maxDepth, e1, h6]) next
end
end Go.V
namespace Go.V
open Go.RowKit
section
variable {P : Program} {n : Nat} {C : Cx} {k : List Item} {env : Env} {L : Own} {I : Imm} {ops : Array Oper} {i : Nat} {l : List Oper} {S : World → Prop}
variable {ty : TypeId} {ps : String} {af : Array Edge} {g : Option (Nat × Bool)} {d : Nat}
theorem Ops.rangeNil {x : Operand} {ts kt et : TypeId} (T : Tab P) (hg : want env ops g = some true) (hd : d < n) (hu : T.und ts = some (.map kt et)) (hx : opnd env x = some (.map none))
  (next : ∀ b, Ops P n C ops (i + 1) l k ((d, .pointer (some ⟨b, 0, none⟩)) :: env) ((b, .mapIter none 0 #[] 0) :: L) I) : Ops P n C ops i (⟨some d, .range ts x, ty, ps, af, g⟩ :: l) k env L I :=
 Ops.valW hg (dOk hd) fun a W he hi => ⟨.pointer (some ⟨W.heap.size, 0, none⟩), W.alloc (.mapIter none 0 #[] 0), (W.heap.size, .mapIter none 0 #[] 0) :: L, I,
  .inl (by
   have : ({ W with heap := W.heap.push (.mapIter none 0 #[] 0) } : World) = W.alloc (.mapIter none 0 #[] 0) := rfl
   simp [execOp, Instr.range, eval_opnd he hx, T.undOk hu, newObj, Sem.run, this]), hi.alloc _, next _⟩
theorem Ops.nextNil {x : Operand} {b s c : Nat} {seen : Array Nat} (j : Nat) (hg : want env ops g = some true) (hd : d < n) (hx : opnd env x = some (.pointer (some ⟨b, 0, none⟩))) (hL : L[j]? = some (b, .mapIter none s seen c))
  (next : Ops P n C ops (i + 1) l k ((d, .tuple #[.bool false]) :: env) L I) : Ops P n C ops i (⟨some d, .next x false, ty, ps, af, g⟩ :: l) k env L I :=
 Ops.val hg (dOk hd) (fun a W he hi => by
  have hW := hi.fits.own b _ (List.mem_of_getElem? hL)
  simp only [execOp, eval_opnd he hx, Instr.next, Sem.run_bind, run_getObj hW (fun _ _ _ h => by cases h), Result.andThen_ok]
  rfl) next
theorem Ev.negI {x : Operand} {t : TypeId} {kd : IntKind} {a r : Int} (hx : opnd env x = some (.int kd a)) (hr : kd.wrap (0 - a) = r) : Ev P n env (.unOp .neg t x) (.int kd r) :=
 fun a' W he _ _ _ _ _ => by
  subst hr
  simp [execOp, eval_opnd he hx, Op.unary, Op.intArith]
end
end Go.V
namespace Go.V
open Go.RowKit
set_option maxRecDepth 10000
attribute [local irreducible] Run Ops QD
def dgF : Nat → Nat → Bs
 | 0, _ => []
 | f + 1, n => if n = 0 then [] else dgF f (n / 10) ++ [UInt8.ofNat (48 + n % 10)]
def numT (n : Int) : Bs := if n = 0 then [48] else (if n < 0 then [45] else []) ++ dgF 20 n.natAbs
def nuJ (n : Int) : Js := .mk 110 (numT n) []
theorem dgF_zero (f : Nat) : dgF f 0 = [] := by cases f <;> simp [dgF]
theorem dgF_len : ∀ f n, (dgF f n).length ≤ f
 | 0, _ => Nat.le_refl _
 | f + 1, n => by
  unfold dgF
  split
  ·simp
  ·rw [List.length_append, List.length_singleton]; have := dgF_len f (n / 10); omega
theorem numT_len (n : Int) : (numT n).length ≤ 21 := by
 unfold numT
 split
 ·simp
 ·rw [List.length_append]
  have := dgF_len 20 n.natAbs
  split <;> simp <;> omega
theorem dgF_dig : ∀ f n, ∀ c ∈ dgF f n, 48 ≤ c.toNat ∧ c.toNat ≤ 57
 | 0, _, c, h => by cases h
 | f + 1, n, c, h => by
  unfold dgF at h
  split at h
  ·cases h
  ·rcases List.mem_append.1 h with h | h
   ·exact dgF_dig f _ c h
   ·rw [List.mem_singleton.1 h, ofNat_nat (by omega)]; omega
theorem dgF_head : ∀ f n, 0 < n → n < 10 ^ f → ∃ c t, dgF f n = c :: t ∧ 49 ≤ c.toNat ∧ c.toNat ≤ 57
 | 0, n, h, h' => by simp at h'; omega
 | f + 1, n, h, h' => by
  unfold dgF
  rw [if_neg (by omega)]
  by_cases h0 : n / 10 = 0
  ·rw [h0, dgF_zero]
   refine ⟨_, [], rfl, ?_⟩
   rw [ofNat_nat (by omega)]; omega
  ·obtain ⟨c, t, e, h1⟩ := dgF_head f (n / 10) (by omega) (by rw [Nat.pow_succ] at h'; omega)
   exact ⟨c, t ++ [UInt8.ofNat (48 + n % 10)], by rw [e]; rfl, h1⟩
theorem stop_word {r : Bs} (hr : Stop r) {k : UInt8} (h : k ≠ 44 ∧ k ≠ 93 ∧ k ≠ 125 ∧ isBl k = false) : wordR [k] r = none := by
 cases r with
 | nil => exact hr.elim
 | cons c r =>
  refine word_no (fun e => ?_) r
  subst e
  rcases hr with h' | h' | h' | h'
  ·exact h.1 h'
  ·exact h.2.1 h'
  ·exact h.2.2.1 h'
  ·rw [h.2.2.2] at h'; cases h'
theorem num_rest {r : Bs} (hr : Stop r) : (some r : Option Bs).bind numR3 = some r ∧ numR4 r = some r := by
 refine ⟨?_, ?_⟩
 ·rw [Option.bind_some, numR3, stop_word hr (by decide)]
 ·rw [numR4, stop_word hr (by decide)]
  simp only
  rw [stop_word hr (by decide)]
theorem dropW_all {l r : Bs} (h : ∀ c ∈ l, isDg c = true) (hr : Stop r) : (l ++ r).dropWhile isDg = r := by
 induction l with
 | nil => exact stop_dg hr
 | cons c l ih =>
  rw [List.cons_append, List.dropWhile_cons, if_pos (h c (by simp))]
  exact ih fun x hx => h x (by simp [hx])
theorem num_digs {c : UInt8} {t r : Bs} (h : ∀ x ∈ c :: t, isDg x = true) (hc : c ≠ 48) (hr : Stop r) : numR2 (c :: t ++ r) = some r := by
 rw [numR2, List.cons_append, word_no hc]
 simp only
 rw [digs_one (h c (by simp)), dropW_all (fun x hx => h x (by simp [hx])) hr]
theorem isDg_of {c : UInt8} (h : 48 ≤ c.toNat ∧ c.toNat ≤ 57) : isDg c = true := by unfold isDg; simp [h.1, h.2]
theorem lit_num (n : Int) (hn : n.natAbs < 10 ^ 20) : LitR (numT n) (.mk 48 false (numT n) [] []) := by
 intro f r hr
 by_cases h0 : n = 0
 ·subst h0
  refine rdV_num f (t := [48]) rfl (.inl (by decide)) ?_
  have e1 : numR1 (48 :: r) = 48 :: r := by rw [numR1, word_no (by decide)]; rfl
  show numR (48 :: r) = some r
  rw [numR, e1, numR2, word1]
  simp only
  rw [(num_rest hr).1, Option.bind_some, (num_rest hr).2]
 ·obtain ⟨c, t, e, hc1, hc2⟩ := dgF_head 20 n.natAbs (by omega) hn
  have hall : ∀ x ∈ c :: t, isDg x = true := fun x hx => isDg_of (dgF_dig 20 n.natAbs x (by rw [e]; exact hx))
  have h48 : c ≠ 48 := fun h => by subst h; simp at hc1
  have h45 : c ≠ 45 := fun h => by subst h; simp at hc1
  by_cases hneg : n < 0
  ·have et : numT n = 45 :: (c :: t) := by unfold numT; rw [if_neg h0, if_pos hneg, e]; rfl
   rw [et]
   refine rdV_num f rfl (.inr rfl) ?_
   have e1 : numR1 (45 :: (c :: t) ++ r) = c :: t ++ r := by rw [numR1, List.cons_append, word1]; rfl
   rw [numR, e1, num_digs hall h48 hr, (num_rest hr).1, Option.bind_some, (num_rest hr).2]
  ·have et : numT n = c :: t := by unfold numT; rw [if_neg h0, if_neg hneg, e]; rfl
   rw [et]
   refine rdV_num f rfl (.inl (by omega)) ?_
   have e1 : numR1 (c :: t ++ r) = c :: t ++ r := by rw [numR1, List.cons_append, word_no h45]; rfl
   rw [numR, e1, num_digs hall h48 hr, (num_rest hr).1, Option.bind_some, (num_rest hr).2]
theorem dgF_step (f m : Nat) (s : Bs) (h : 0 < m) : dgF (f + 1) m ++ s = dgF f (m / 10) ++ (UInt8.ofNat (48 + m % 10) :: s) := by
 rw [show dgF (f + 1) m = dgF f (m / 10) ++ [UInt8.ofNat (48 + m % 10)] by rw [dgF, if_neg (by omega)]]
 simp
end Go.V
namespace Go.V
open Go.Proofs.Tryz
open Go.RowKit
set_option maxRecDepth 10000
attribute [local irreducible] Run Ops
structure Pf where
 arch : List UInt8
 os : List UInt8
 ver : List UInt8
 var : List UInt8
deriving DecidableEq
def Pf.cs (p : Pf) (f g : Value) : List Value := [str p.arch, str p.os, str p.ver, str p.var, f, g]
abbrev Txts := List (List UInt8)
def fitL (xs : List (List UInt8)) : Prop := xs.length ≤ 2147483647 ∧ ∀ x ∈ xs, x.length ≤ 2147483647
theorem laws_zzFits12 (I : Imm) (xs : List (List UInt8)) (v : Value) (hS : Sl tStr I v xs) : Pure prog 34 [v] I fun w J => ∃ r, w = .bool r ∧ (r = true → fitL xs) := by
 refine Spec.enter 18 [(0, _)] func34 rfl ntmps34 (by simp) rfl ?_
 intro C hCf hR hCI
 repeat (first | refine Run.seq ?_ | refine Run.region ?_ | refine Ops.nil ?_ | refine Ops.pure T rfl (by decide) rfl ?_)
 refine Ops.lenSl (hS) rfl dc rfl (T.undOk rfl) ?_
 repeat (first | refine Ops.nil ?_ | refine Ops.gtr rfl (by decide) rfl rfl ?_)
 refine Run.cond rfl rfl (fun h => ?_) (fun h => ?_)
 all_goals (try rw [h])
 all_goals (try simp only [decide_eq_true_eq, decide_eq_false_iff_not, Bool.not_eq_true', Bool.not_eq_false', Bool.and_eq_true, Bool.or_eq_true, Bool.and_eq_false_imp, Bool.or_eq_false_iff] at h)
 ·skip
  repeat (first | refine Run.seq ?_ | refine Run.region ?_ | refine Ops.nil ?_ | refine Ops.pure T rfl (by decide) rfl ?_)
  refine Run.fin (Run.ret1 (by rw [hCf]; exact func34) results34 rfl (hR _ _ _ ?_))
  exact ⟨rfl, false, rfl, by simp⟩
 repeat (first | refine Run.seq ?_ | refine Run.region ?_ | refine Run.skip ?_ | refine Ops.pure T rfl (by decide) rfl ?_)
 refine Ops.lenSl (hS) rfl dc rfl (T.undOk rfl) ?_
 repeat (first | refine Ops.nil ?_ | refine Run.block ?_ | refine Ops.pure T rfl (by decide) rfl ?_)
 refine Run.keep [8, 9, 10] [_, _, _] rfl ?_
 refine Run.rounds (fun m env L J => ∃ i : Nat, m = xs.length - i ∧ i ≤ xs.length ∧ (∀ x ∈ xs.take i, x.length ≤ 2147483647) ∧ env = [(8, v), (9, .int .i64 xs.length), (10, .int .i64 i)] ∧ L = [] ∧ J = I) xs.length ⟨0, by omega, by omega, by simp, rfl, rfl, rfl⟩ ?_
 rintro m env L J ⟨i, rfl, hi, hall, rfl, rfl, rfl⟩ ih
 repeat (first | refine Run.seq ?_ | refine Run.region ?_ | refine Ops.nil ?_ | refine Ops.lss rfl (by decide) rfl rfl ?_)
 refine Run.cond rfl rfl (fun h2 => ?_) (fun h2 => ?_)
 all_goals (try rw [h2])
 all_goals (try simp only [decide_eq_true_eq, decide_eq_false_iff_not, Bool.not_eq_true', Bool.not_eq_false', Bool.and_eq_true, Bool.or_eq_true, Bool.and_eq_false_imp, Bool.or_eq_false_iff] at h2)
 ·skip
  repeat (first | refine Run.seq ?_ | refine Run.region ?_ | refine Run.skip ?_ | refine Run.block ?_)
  refine Ops.indexSl hS rfl dc rfl rfl (T.undOk rfl) (T.sizeOk rfl) om om ?_
  rintro b_ off_ x cs_ hx hr_ hA_
  obtain rfl : cs_ = [_] := hr_
  refine Ops.loadI rfl dc rfl hA_ (T.aggOk rfl) ?_
  rw [Int.toNat_natCast] at hx
  repeat (first | refine Run.seq ?_ | refine Run.region ?_ | refine Ops.nil ?_ | refine Ops.gtr rfl (by decide) rfl rfl ?_ | refine Ops.pure T rfl (by decide) rfl ?_ | refine Ops.lenS T rfl (by decide) rfl rfl ?_)
  refine Run.cond rfl rfl (fun h3 => ?_) (fun h3 => ?_)
  all_goals (try rw [h3])
  all_goals (try simp only [decide_eq_true_eq, decide_eq_false_iff_not, Bool.not_eq_true', Bool.not_eq_false', Bool.and_eq_true, Bool.or_eq_true, Bool.and_eq_false_imp, Bool.or_eq_false_iff] at h3)
  ·skip
   repeat (first | refine Run.seq ?_ | refine Run.region ?_ | refine Ops.nil ?_ | refine Ops.pure T rfl (by decide) rfl ?_)
   refine Run.fin (Run.ret1 (by rw [hCf]; exact func34) results34 rfl (hR _ _ _ ?_))
   exact ⟨rfl, false, rfl, by simp⟩
  ·skip
   repeat (first | refine Run.region ?_ | refine Ops.nil ?_ | refine Run.skip ?_ | refine Run.inBlock ?_ | refine Ops.add rfl (by decide) rfl rfl (wI (by first | omega | (simp only [List.length_cons, List.length_nil] ; omega) | (simp; omega)) (by first | omega | (simp only [List.length_cons, List.length_nil] ; omega) | (simp; omega))) ?_ | refine Ops.pure T rfl (by decide) rfl ?_)
   refine Run.keep [8, 9, 10] [_, _, _] rfl ?_
   refine ih (xs.length - (i + 1)) _ _ _ (by omega) ⟨i + 1, rfl, by omega, ?_, rfl, rfl, rfl⟩
   intro y hy
   rw [List.take_add_one, hx] at hy
   rcases List.mem_append.1 hy with hy | hy
   ·exact hall y hy
   ·simp at hy; subst hy; omega
 ·have : i = xs.length := by omega
  subst this
  repeat (first | refine Run.seq ?_ | refine Run.region ?_ | refine Ops.nil ?_ | refine Run.exit rfl ?_ | refine Ops.pure T rfl (by decide) rfl ?_)
  refine Run.fin (Run.ret1 (by rw [hCf]; exact func34) results34 rfl (hR _ _ _ ?_))
  exact ⟨rfl, true, rfl, fun _ => ⟨by omega, by simpa using hall⟩⟩
def fitP (p : Pf) : Prop := p.arch.length ≤ 2147483647 ∧ p.os.length ≤ 2147483647 ∧ p.ver.length ≤ 2147483647 ∧ p.var.length ≤ 2147483647
theorem laws_zzFits24 (I : Imm) (p : Pf) (u v : Value) (f g : List (List UInt8)) (hf : Sl tStr I u f) (hg : Sl tStr I v g) : Pure prog 127 [.agg (p.cs u v).toArray] I fun w J => ∃ r, w = .bool r ∧ (r = true → fitP p ∧ fitL f ∧ fitL g) := by
 obtain ⟨p1, p2, p3, p4⟩ := p
 obtain ⟨A, c, hu⟩ := hf.isSl
 obtain ⟨A', c', hv⟩ := hg.isSl
 subst hu
 subst hv
 refine Spec.enter 27 [(0, _)] func127 rfl ntmps127 (by simp) rfl ?_
 intro C hCf hR hCI
 refine Run.seq ?_; refine Run.region ?_
 refine Ops.box rfl dc rfl rfl (fun b => ?_)
 repeat (first | refine Run.seq ?_ | refine Run.region ?_ | refine Ops.nil ?_ | refine Ops.gtr rfl (by decide) rfl rfl ?_ | refine Ops.pure T rfl (by decide) rfl ?_ | refine Ops.lenS T rfl (by decide) rfl rfl ?_ | refine Ops.load 0 rfl (by decide) rfl rfl (T.aggOk rfl) rfl ?_)
 refine Run.cond rfl rfl (fun h1 => ?_) (fun h1 => ?_)
 all_goals (try rw [h1])
 all_goals (try simp only [decide_eq_true_eq, decide_eq_false_iff_not, Bool.not_eq_true', Bool.not_eq_false', Bool.and_eq_true, Bool.or_eq_true, Bool.and_eq_false_imp, Bool.or_eq_false_iff] at h1)
 ·skip
  repeat (first | refine Run.seq ?_ | refine Run.region ?_ | refine Ops.nil ?_ | refine Ops.pure T rfl (by decide) rfl ?_)
  refine Run.fin (Run.ret1 (by rw [hCf]; exact func127) results127 rfl (hR _ _ _ ?_))
  exact ⟨rfl, false, rfl, by simp⟩
 repeat (first | refine Run.seq ?_ | refine Run.region ?_ | refine Ops.nil ?_ | refine Run.skip ?_ | refine Ops.gtr rfl (by decide) rfl rfl ?_ | refine Ops.pure T rfl (by decide) rfl ?_ | refine Ops.lenS T rfl (by decide) rfl rfl ?_ | refine Ops.load 0 rfl (by decide) rfl rfl (T.aggOk rfl) rfl ?_)
 refine Run.cond rfl rfl (fun h2 => ?_) (fun h2 => ?_)
 all_goals (try rw [h2])
 all_goals (try simp only [decide_eq_true_eq, decide_eq_false_iff_not, Bool.not_eq_true', Bool.not_eq_false', Bool.and_eq_true, Bool.or_eq_true, Bool.and_eq_false_imp, Bool.or_eq_false_iff] at h2)
 ·skip
  repeat (first | refine Run.seq ?_ | refine Run.region ?_ | refine Ops.nil ?_ | refine Ops.pure T rfl (by decide) rfl ?_)
  refine Run.fin (Run.ret1 (by rw [hCf]; exact func127) results127 rfl (hR _ _ _ ?_))
  exact ⟨rfl, false, rfl, by simp⟩
 repeat (first | refine Run.seq ?_ | refine Run.region ?_ | refine Ops.nil ?_ | refine Run.skip ?_ | refine Ops.gtr rfl (by decide) rfl rfl ?_ | refine Ops.pure T rfl (by decide) rfl ?_ | refine Ops.lenS T rfl (by decide) rfl rfl ?_ | refine Ops.load 0 rfl (by decide) rfl rfl (T.aggOk rfl) rfl ?_)
 refine Run.cond rfl rfl (fun h3 => ?_) (fun h3 => ?_)
 all_goals (try rw [h3])
 all_goals (try simp only [decide_eq_true_eq, decide_eq_false_iff_not, Bool.not_eq_true', Bool.not_eq_false', Bool.and_eq_true, Bool.or_eq_true, Bool.and_eq_false_imp, Bool.or_eq_false_iff] at h3)
 ·skip
  repeat (first | refine Run.seq ?_ | refine Run.region ?_ | refine Ops.nil ?_ | refine Ops.pure T rfl (by decide) rfl ?_)
  refine Run.fin (Run.ret1 (by rw [hCf]; exact func127) results127 rfl (hR _ _ _ ?_))
  exact ⟨rfl, false, rfl, by simp⟩
 repeat (first | refine Run.seq ?_ | refine Run.region ?_ | refine Ops.nil ?_ | refine Run.skip ?_ | refine Ops.gtr rfl (by decide) rfl rfl ?_ | refine Ops.pure T rfl (by decide) rfl ?_ | refine Ops.lenS T rfl (by decide) rfl rfl ?_ | refine Ops.load 0 rfl (by decide) rfl rfl (T.aggOk rfl) rfl ?_)
 refine Run.cond rfl rfl (fun h4 => ?_) (fun h4 => ?_)
 all_goals (try rw [h4])
 all_goals (try simp only [decide_eq_true_eq, decide_eq_false_iff_not, Bool.not_eq_true', Bool.not_eq_false', Bool.and_eq_true, Bool.or_eq_true, Bool.and_eq_false_imp, Bool.or_eq_false_iff] at h4)
 ·skip
  repeat (first | refine Run.seq ?_ | refine Run.region ?_ | refine Ops.nil ?_ | refine Ops.pure T rfl (by decide) rfl ?_)
  refine Run.fin (Run.ret1 (by rw [hCf]; exact func127) results127 rfl (hR _ _ _ ?_))
  exact ⟨rfl, false, rfl, by simp⟩
 repeat (first | refine Run.seq ?_ | refine Run.region ?_ | refine Run.skip ?_ | refine Ops.pure T rfl (by decide) rfl ?_ | refine Ops.load 0 rfl (by decide) rfl rfl (T.aggOk rfl) rfl ?_)
 refine Ops.call ((laws_zzFits12 I f _ hf)) rfl dc call34 rfl ?_
 rintro _ J hle ⟨r, rfl, hr⟩
 repeat (first | refine Ops.nil ?_ | refine Ops.pure T rfl (by decide) rfl ?_)
 cases r with
 | false =>
  skip
  repeat (first | refine Run.seq ?_ | refine Run.region ?_ | refine Ops.nil ?_ | refine Run.cond_t rfl ?_ | refine Ops.pure T rfl (by decide) rfl ?_)
  refine Run.fin (Run.ret1 (by rw [hCf]; exact func127) results127 rfl (hR _ _ _ ?_))
  exact ⟨rfl, false, rfl, by simp⟩
 | true =>
 repeat (first | refine Run.seq ?_ | refine Run.region ?_ | refine Run.skip ?_ | refine Run.cond_f rfl ?_ | refine Ops.pure T rfl (by decide) rfl ?_ | refine Ops.load 0 rfl (by decide) rfl rfl (T.aggOk rfl) rfl ?_)
 refine Ops.call ((laws_zzFits12 J g _ (hg.mono hle))) rfl dc call34 rfl ?_
 rintro _ J2 hle2 ⟨r, rfl, hr2⟩
 repeat (first | refine Ops.nil ?_ | refine Ops.pure T rfl (by decide) rfl ?_)
 cases r with
 | false =>
  skip
  repeat (first | refine Run.seq ?_ | refine Run.region ?_ | refine Ops.nil ?_ | refine Run.cond_t rfl ?_ | refine Ops.pure T rfl (by decide) rfl ?_)
  refine Run.fin (Run.ret1 (by rw [hCf]; exact func127) results127 rfl (hR _ _ _ ?_))
  exact ⟨rfl, false, rfl, by simp⟩
 | true =>
 repeat (first | refine Run.seq ?_ | refine Run.region ?_ | refine Ops.nil ?_ | refine Run.skip ?_ | refine Run.cond_f rfl ?_ | refine Ops.pure T rfl (by decide) rfl ?_)
 refine Run.fin (Run.ret1 (by rw [hCf]; exact func127) results127 rfl (hR _ _ _ ?_))
 exact ⟨rfl, true, rfl, fun _ => ⟨⟨by simp only; omega, by simp only; omega, by simp only; omega, by simp only; omega⟩, hr rfl, hr2 rfl⟩⟩
abbrev K2 := List UInt8 × List UInt8
def tK2 : Ty K2 := ⟨2, fun _ cs x => cs = [str x.1, str x.2], fun h => by subst h; rfl, fun h _ => h⟩
abbrev PfL := Pf × Txts × Txts
def tPf : Ty PfL := ⟨6, fun I cs x => ∃ A a A' a', cs = x.1.cs (.slice A x.2.1.length a) (.slice A' x.2.2.length a') ∧ Sl tStr I (.slice A x.2.1.length a) x.2.1 ∧ Sl tStr I (.slice A' x.2.2.length a') x.2.2,
 fun h => by obtain ⟨A, a, A', a', h, _⟩ := h; subst h; rfl, fun h hle => by obtain ⟨A, a, A', a', h, h1, h2⟩ := h; exact ⟨A, a, A', a', h, h1.mono hle, h2.mono hle⟩⟩
theorem Sl.map {α β : Type} {t : Ty α} {t' : Ty β} {I : Imm} (φ : α → β) (hs : t'.size = t.size) (h : ∀ cs x, t.rel I cs x → t'.rel I cs (φ x)) {v : Value} {xs : List α} (hS : Sl t I v xs) : Sl t' I v (xs.map φ) := by
 obtain ⟨A, c, rfl, hc, hr⟩ := hS
 refine ⟨A, c, by simp, by simpa using hc, ?_⟩
 rcases hr with rfl | ⟨b, off, rfl, hrow⟩
 ·exact .inl rfl
 ·refine .inr ⟨b, off, rfl, ?_⟩
  intro i y hy
  rw [List.getElem?_map] at hy
  obtain ⟨x, hx, rfl⟩ := Option.map_eq_some_iff.1 hy
  obtain ⟨cs, h1, h2⟩ := hrow i x hx
  exact ⟨cs, h cs x h1, by rw [hs]; exact h2⟩
def fit2 (x : K2) : Prop := x.1.length ≤ 2147483647 ∧ x.2.length ≤ 2147483647
def fitF (x : PfL) : Prop := fitP x.1 ∧ fitL x.2.1 ∧ fitL x.2.2
theorem laws_zzFits18 (I : Imm) (x : K2) : Pure prog 77 [.agg [str x.1, str x.2].toArray] I fun w J => ∃ r, w = .bool r ∧ (r = true → fit2 x) := by
 obtain ⟨x1, x2⟩ := x
 refine Spec.enter 11 [(0, _)] func77 rfl ntmps77 (by simp) rfl ?_
 intro C hCf hR hCI
 refine Run.seq ?_; refine Run.region ?_
 refine Ops.box rfl dc rfl rfl (fun b => ?_)
 repeat (first | refine Run.seq ?_ | refine Run.region ?_ | refine Ops.nil ?_ | refine Ops.gtr rfl (by decide) rfl rfl ?_ | refine Ops.pure T rfl (by decide) rfl ?_ | refine Ops.lenS T rfl (by decide) rfl rfl ?_ | refine Ops.load 0 rfl (by decide) rfl rfl (T.aggOk rfl) rfl ?_)
 refine Run.cond rfl rfl (fun h1 => ?_) (fun h1 => ?_)
 all_goals (try rw [h1])
 all_goals (try simp only [decide_eq_true_eq, decide_eq_false_iff_not, Bool.not_eq_true', Bool.not_eq_false', Bool.and_eq_true, Bool.or_eq_true, Bool.and_eq_false_imp, Bool.or_eq_false_iff] at h1)
 ·skip
  repeat (first | refine Run.seq ?_ | refine Run.region ?_ | refine Ops.nil ?_ | refine Ops.pure T rfl (by decide) rfl ?_)
  refine Run.fin (Run.ret1 (by rw [hCf]; exact func77) results77 rfl (hR _ _ _ ?_))
  exact ⟨rfl, false, rfl, by simp⟩
 repeat (first | refine Run.seq ?_ | refine Run.region ?_ | refine Ops.nil ?_ | refine Run.skip ?_ | refine Ops.gtr rfl (by decide) rfl rfl ?_ | refine Ops.pure T rfl (by decide) rfl ?_ | refine Ops.lenS T rfl (by decide) rfl rfl ?_ | refine Ops.load 0 rfl (by decide) rfl rfl (T.aggOk rfl) rfl ?_)
 refine Run.cond rfl rfl (fun h2 => ?_) (fun h2 => ?_)
 all_goals (try rw [h2])
 all_goals (try simp only [decide_eq_true_eq, decide_eq_false_iff_not, Bool.not_eq_true', Bool.not_eq_false', Bool.and_eq_true, Bool.or_eq_true, Bool.and_eq_false_imp, Bool.or_eq_false_iff] at h2)
 ·skip
  repeat (first | refine Run.seq ?_ | refine Run.region ?_ | refine Ops.nil ?_ | refine Ops.pure T rfl (by decide) rfl ?_)
  refine Run.fin (Run.ret1 (by rw [hCf]; exact func77) results77 rfl (hR _ _ _ ?_))
  exact ⟨rfl, false, rfl, by simp⟩
 repeat (first | refine Run.seq ?_ | refine Run.region ?_ | refine Ops.nil ?_ | refine Run.skip ?_ | refine Ops.pure T rfl (by decide) rfl ?_)
 refine Run.fin (Run.ret1 (by rw [hCf]; exact func77) results77 rfl (hR _ _ _ ?_))
 exact ⟨rfl, true, rfl, fun _ => ⟨by simp only; omega, by simp only; omega⟩⟩
theorem laws_zzFits14 (I : Imm) (x : K2) : Pure prog 95 [.agg [str x.1, str x.2].toArray] I fun w J => ∃ r, w = .bool r ∧ (r = true → fit2 x) := by
 obtain ⟨x1, x2⟩ := x
 refine Spec.enter 11 [(0, _)] func95 rfl ntmps95 (by simp) rfl ?_
 intro C hCf hR hCI
 refine Run.seq ?_; refine Run.region ?_
 refine Ops.box rfl dc rfl rfl (fun b => ?_)
 repeat (first | refine Run.seq ?_ | refine Run.region ?_ | refine Ops.nil ?_ | refine Ops.gtr rfl (by decide) rfl rfl ?_ | refine Ops.pure T rfl (by decide) rfl ?_ | refine Ops.lenS T rfl (by decide) rfl rfl ?_ | refine Ops.load 0 rfl (by decide) rfl rfl (T.aggOk rfl) rfl ?_)
 refine Run.cond rfl rfl (fun h1 => ?_) (fun h1 => ?_)
 all_goals (try rw [h1])
 all_goals (try simp only [decide_eq_true_eq, decide_eq_false_iff_not, Bool.not_eq_true', Bool.not_eq_false', Bool.and_eq_true, Bool.or_eq_true, Bool.and_eq_false_imp, Bool.or_eq_false_iff] at h1)
 ·skip
  repeat (first | refine Run.seq ?_ | refine Run.region ?_ | refine Ops.nil ?_ | refine Ops.pure T rfl (by decide) rfl ?_)
  refine Run.fin (Run.ret1 (by rw [hCf]; exact func95) results95 rfl (hR _ _ _ ?_))
  exact ⟨rfl, false, rfl, by simp⟩
 repeat (first | refine Run.seq ?_ | refine Run.region ?_ | refine Ops.nil ?_ | refine Run.skip ?_ | refine Ops.gtr rfl (by decide) rfl rfl ?_ | refine Ops.pure T rfl (by decide) rfl ?_ | refine Ops.lenS T rfl (by decide) rfl rfl ?_ | refine Ops.load 0 rfl (by decide) rfl rfl (T.aggOk rfl) rfl ?_)
 refine Run.cond rfl rfl (fun h2 => ?_) (fun h2 => ?_)
 all_goals (try rw [h2])
 all_goals (try simp only [decide_eq_true_eq, decide_eq_false_iff_not, Bool.not_eq_true', Bool.not_eq_false', Bool.and_eq_true, Bool.or_eq_true, Bool.and_eq_false_imp, Bool.or_eq_false_iff] at h2)
 ·skip
  repeat (first | refine Run.seq ?_ | refine Run.region ?_ | refine Ops.nil ?_ | refine Ops.pure T rfl (by decide) rfl ?_)
  refine Run.fin (Run.ret1 (by rw [hCf]; exact func95) results95 rfl (hR _ _ _ ?_))
  exact ⟨rfl, false, rfl, by simp⟩
 repeat (first | refine Run.seq ?_ | refine Run.region ?_ | refine Ops.nil ?_ | refine Run.skip ?_ | refine Ops.pure T rfl (by decide) rfl ?_)
 refine Run.fin (Run.ret1 (by rw [hCf]; exact func95) results95 rfl (hR _ _ _ ?_))
 exact ⟨rfl, true, rfl, fun _ => ⟨by simp only; omega, by simp only; omega⟩⟩
theorem laws_zzFits13 (I : Imm) (xs : List K2) (v : Value) (hS : Sl tK2 I v xs) : Pure prog 54 [v] I fun w J => ∃ r, w = .bool r ∧ (r = true → xs.length ≤ 2147483647 ∧ ∀ x ∈ xs, fit2 x) := by
 refine Spec.enter 18 [(0, _)] func54 rfl ntmps54 (by simp) rfl ?_
 intro C hCf hR hCI
 repeat (first | refine Run.seq ?_ | refine Run.region ?_ | refine Ops.nil ?_ | refine Ops.pure T rfl (by decide) rfl ?_)
 refine Ops.lenSl (hS) rfl dc rfl (T.undOk rfl) ?_
 repeat (first | refine Ops.nil ?_ | refine Ops.gtr rfl (by decide) rfl rfl ?_)
 refine Run.cond rfl rfl (fun h => ?_) (fun h => ?_)
 all_goals (try rw [h])
 all_goals (try simp only [decide_eq_true_eq, decide_eq_false_iff_not, Bool.not_eq_true', Bool.not_eq_false', Bool.and_eq_true, Bool.or_eq_true, Bool.and_eq_false_imp, Bool.or_eq_false_iff] at h)
 ·skip
  repeat (first | refine Run.seq ?_ | refine Run.region ?_ | refine Ops.nil ?_ | refine Ops.pure T rfl (by decide) rfl ?_)
  refine Run.fin (Run.ret1 (by rw [hCf]; exact func54) results54 rfl (hR _ _ _ ?_))
  exact ⟨rfl, false, rfl, by simp⟩
 repeat (first | refine Run.seq ?_ | refine Run.region ?_ | refine Run.skip ?_ | refine Ops.pure T rfl (by decide) rfl ?_)
 refine Ops.lenSl (hS) rfl dc rfl (T.undOk rfl) ?_
 repeat (first | refine Ops.nil ?_ | refine Run.block ?_ | refine Ops.pure T rfl (by decide) rfl ?_)
 refine Run.keep [8, 9, 10] [_, _, _] rfl ?_
 refine Run.rounds (fun m env L J => ∃ i : Nat, m = xs.length - i ∧ i ≤ xs.length ∧ (∀ x ∈ xs.take i, fit2 x) ∧ env = [(8, v), (9, .int .i64 xs.length), (10, .int .i64 i)] ∧ L = [] ∧ Le I J) xs.length ⟨0, by omega, by omega, by simp, rfl, rfl, Le.refl _⟩ ?_
 rintro m env L J ⟨i, rfl, hi, hall, rfl, rfl, hle⟩ ih
 repeat (first | refine Run.seq ?_ | refine Run.region ?_ | refine Ops.nil ?_ | refine Ops.lss rfl (by decide) rfl rfl ?_)
 refine Run.cond rfl rfl (fun h2 => ?_) (fun h2 => ?_)
 all_goals (try rw [h2])
 all_goals (try simp only [decide_eq_true_eq, decide_eq_false_iff_not, Bool.not_eq_true', Bool.not_eq_false', Bool.and_eq_true, Bool.or_eq_true, Bool.and_eq_false_imp, Bool.or_eq_false_iff] at h2)
 ·skip
  repeat (first | refine Run.seq ?_ | refine Run.region ?_ | refine Run.skip ?_ | refine Run.block ?_)
  refine Ops.indexSl (hS.mono hle) rfl dc rfl rfl (T.undOk rfl) (T.sizeOk rfl) (by omega) (by omega) ?_
  rintro b_ off_ x cs_ hx hr_ hA_
  skip
  subst hr_
  refine Ops.loadIN rfl dc rfl (hA_) (T.aggOk rfl) (T.sizeOk rfl) rfl ?_
  refine Ops.alloc rfl dc (T.zeroOk rfl) rfl (fun b2 => ?_)
  repeat (first | refine Run.seq ?_ | refine Run.region ?_ | refine Ops.nil ?_ | refine Ops.loadN 0 rfl (by decide) rfl rfl (T.aggOk rfl) (T.sizeOk rfl) rfl rfl ?_ | refine Ops.store 0 rfl rfl rfl rfl rfl (T.sizeOk rfl) rfl (Nat.le_of_ble_eq_true rfl) rfl rfl ?_)
  refine Ops.call ((laws_zzFits14 J x)) rfl dc call95 rfl ?_
  rintro _ J2 hle2 ⟨r, rfl, hr⟩
  repeat (first | refine Ops.nil ?_ | refine Ops.pure T rfl (by decide) rfl ?_)
  rw [Int.toNat_natCast] at hx
  cases r with
  | false =>
   repeat (first | refine Run.seq ?_ | refine Run.region ?_ | refine Ops.nil ?_ | refine Run.cond_t rfl ?_ | refine Ops.pure T rfl (by decide) rfl ?_)
   refine Run.fin (Run.ret1 (by rw [hCf]; exact func54) results54 rfl (hR _ _ _ ?_))
   exact ⟨rfl, false, rfl, by simp⟩
  | true =>
   repeat (first | refine Run.region ?_ | refine Ops.nil ?_ | refine Run.skip ?_ | refine Run.inBlock ?_ | refine Run.cond_f rfl ?_ | refine Ops.add rfl (by decide) rfl rfl (wI (by first | omega | (simp only [List.length_cons, List.length_nil] ; omega) | (simp; omega)) (by first | omega | (simp only [List.length_cons, List.length_nil] ; omega) | (simp; omega))) ?_ | refine Ops.pure T rfl (by decide) rfl ?_)
   refine Run.fin ?_
   refine Run.keep [8, 9, 10] [_, _, _] rfl ?_
   refine ih (xs.length - (i + 1)) _ _ _ (by omega) ⟨i + 1, rfl, by omega, ?_, rfl, rfl, hle.trans hle2⟩
   intro y hy
   rw [List.take_add_one, hx] at hy
   rcases List.mem_append.1 hy with hy | hy
   ·exact hall y hy
   ·simp at hy; subst hy; exact hr rfl
 ·have : i = xs.length := by omega
  subst this
  repeat (first | refine Run.seq ?_ | refine Run.region ?_ | refine Ops.nil ?_ | refine Run.exit rfl ?_ | refine Ops.pure T rfl (by decide) rfl ?_)
  refine Run.fin (Run.ret1 (by rw [hCf]; exact func54) results54 rfl (hR _ _ _ ?_))
  exact ⟨rfl, true, rfl, fun _ => ⟨by omega, by simpa using hall⟩⟩
theorem laws_zzFits23 (I : Imm) (xs : List PfL) (v : Value) (hS : Sl tPf I v xs) : Pure prog 94 [v] I fun w J => ∃ r, w = .bool r ∧ (r = true → xs.length ≤ 2147483647 ∧ ∀ x ∈ xs, fitF x) := by
 refine Spec.enter 18 [(0, _)] func94 rfl ntmps94 (by simp) rfl ?_
 intro C hCf hR hCI
 repeat (first | refine Run.seq ?_ | refine Run.region ?_ | refine Ops.nil ?_ | refine Ops.pure T rfl (by decide) rfl ?_)
 refine Ops.lenSl (hS) rfl dc rfl (T.undOk rfl) ?_
 repeat (first | refine Ops.nil ?_ | refine Ops.gtr rfl (by decide) rfl rfl ?_)
 refine Run.cond rfl rfl (fun h => ?_) (fun h => ?_)
 all_goals (try rw [h])
 all_goals (try simp only [decide_eq_true_eq, decide_eq_false_iff_not, Bool.not_eq_true', Bool.not_eq_false', Bool.and_eq_true, Bool.or_eq_true, Bool.and_eq_false_imp, Bool.or_eq_false_iff] at h)
 ·skip
  repeat (first | refine Run.seq ?_ | refine Run.region ?_ | refine Ops.nil ?_ | refine Ops.pure T rfl (by decide) rfl ?_)
  refine Run.fin (Run.ret1 (by rw [hCf]; exact func94) results94 rfl (hR _ _ _ ?_))
  exact ⟨rfl, false, rfl, by simp⟩
 repeat (first | refine Run.seq ?_ | refine Run.region ?_ | refine Run.skip ?_ | refine Ops.pure T rfl (by decide) rfl ?_)
 refine Ops.lenSl (hS) rfl dc rfl (T.undOk rfl) ?_
 repeat (first | refine Ops.nil ?_ | refine Run.block ?_ | refine Ops.pure T rfl (by decide) rfl ?_)
 refine Run.keep [8, 9, 10] [_, _, _] rfl ?_
 refine Run.rounds (fun m env L J => ∃ i : Nat, m = xs.length - i ∧ i ≤ xs.length ∧ (∀ x ∈ xs.take i, fitF x) ∧ env = [(8, v), (9, .int .i64 xs.length), (10, .int .i64 i)] ∧ L = [] ∧ Le I J) xs.length ⟨0, by omega, by omega, by simp, rfl, rfl, Le.refl _⟩ ?_
 rintro m env L J ⟨i, rfl, hi, hall, rfl, rfl, hle⟩ ih
 repeat (first | refine Run.seq ?_ | refine Run.region ?_ | refine Ops.nil ?_ | refine Ops.lss rfl (by decide) rfl rfl ?_)
 refine Run.cond rfl rfl (fun h2 => ?_) (fun h2 => ?_)
 all_goals (try rw [h2])
 all_goals (try simp only [decide_eq_true_eq, decide_eq_false_iff_not, Bool.not_eq_true', Bool.not_eq_false', Bool.and_eq_true, Bool.or_eq_true, Bool.and_eq_false_imp, Bool.or_eq_false_iff] at h2)
 ·skip
  repeat (first | refine Run.seq ?_ | refine Run.region ?_ | refine Run.skip ?_ | refine Run.block ?_)
  refine Ops.indexSl (hS.mono hle) rfl dc rfl rfl (T.undOk rfl) (T.sizeOk rfl) (by omega) (by omega) ?_
  rintro b_ off_ x cs_ hx hr_ hA_
  obtain ⟨A, a, A', a', hr_, hsl1, hsl2⟩ := hr_
  subst hr_
  refine Ops.loadIN rfl dc rfl (hA_) (T.aggOk rfl) (T.sizeOk rfl) rfl ?_
  refine Ops.alloc rfl dc (T.zeroOk rfl) rfl (fun b2 => ?_)
  repeat (first | refine Run.seq ?_ | refine Run.region ?_ | refine Ops.nil ?_ | refine Ops.loadN 0 rfl (by decide) rfl rfl (T.aggOk rfl) (T.sizeOk rfl) rfl rfl ?_ | refine Ops.store 0 rfl rfl rfl rfl rfl (T.sizeOk rfl) rfl (Nat.le_of_ble_eq_true rfl) rfl rfl ?_)
  refine Ops.call ((laws_zzFits24 J x.1 _ _ x.2.1 x.2.2 hsl1 hsl2)) rfl dc call127 rfl ?_
  rintro _ J2 hle2 ⟨r, rfl, hr⟩
  repeat (first | refine Ops.nil ?_ | refine Ops.pure T rfl (by decide) rfl ?_)
  rw [Int.toNat_natCast] at hx
  cases r with
  | false =>
   repeat (first | refine Run.seq ?_ | refine Run.region ?_ | refine Ops.nil ?_ | refine Run.cond_t rfl ?_ | refine Ops.pure T rfl (by decide) rfl ?_)
   refine Run.fin (Run.ret1 (by rw [hCf]; exact func94) results94 rfl (hR _ _ _ ?_))
   exact ⟨rfl, false, rfl, by simp⟩
  | true =>
   repeat (first | refine Run.region ?_ | refine Ops.nil ?_ | refine Run.skip ?_ | refine Run.inBlock ?_ | refine Run.cond_f rfl ?_ | refine Ops.add rfl (by decide) rfl rfl (wI (by first | omega | (simp only [List.length_cons, List.length_nil] ; omega) | (simp; omega)) (by first | omega | (simp only [List.length_cons, List.length_nil] ; omega) | (simp; omega))) ?_ | refine Ops.pure T rfl (by decide) rfl ?_)
   refine Run.fin ?_
   refine Run.keep [8, 9, 10] [_, _, _] rfl ?_
   refine ih (xs.length - (i + 1)) _ _ _ (by omega) ⟨i + 1, rfl, by omega, ?_, rfl, rfl, hle.trans hle2⟩
   intro y hy
   rw [List.take_add_one, hx] at hy
   rcases List.mem_append.1 hy with hy | hy
   ·exact hall y hy
   ·simp at hy; subst hy; exact hr rfl
 ·have : i = xs.length := by omega
  subst this
  repeat (first | refine Run.seq ?_ | refine Run.region ?_ | refine Ops.nil ?_ | refine Run.exit rfl ?_ | refine Ops.pure T rfl (by decide) rfl ?_)
  refine Run.fin (Run.ret1 (by rw [hCf]; exact func94) results94 rfl (hR _ _ _ ?_))
  exact ⟨rfl, true, rfl, fun _ => ⟨by omega, by simpa using hall⟩⟩
structure Ds where
 media : List UInt8
 size : Int
 dig : K2
 data : List UInt8
 urls : Txts
 anns : List K2
 plats : List PfL
 art : List UInt8
def Ds.cs (d : Ds) (u v w : Value) : List Value := [str d.media, .int .i64 d.size, str d.dig.1, str d.dig.2, str d.data, u, v, w, str d.art]
def DsL (I : Imm) (d : Ds) (u v w : Value) : Prop := Sl tStr I u d.urls ∧ Sl tK2 I v d.anns ∧ Sl tPf I w d.plats
theorem DsL.mono {I J : Imm} {d : Ds} {u v w : Value} (h : DsL I d u v w) (hle : Le I J) : DsL J d u v w := ⟨h.1.mono hle, h.2.1.mono hle, h.2.2.mono hle⟩
def fitDs (d : Ds) : Prop := d.media.length ≤ 2147483647 ∧ fit2 d.dig ∧ d.data.length ≤ 2147483647 ∧ fitL d.urls ∧ (d.anns.length ≤ 2147483647 ∧ ∀ x ∈ d.anns, fit2 x) ∧ (d.plats.length ≤ 2147483647 ∧ ∀ x ∈ d.plats, fitF x) ∧ d.art.length ≤ 2147483647
def tDs : Ty Ds := ⟨9, fun I cs d => ∃ A a A' a' A2 a2, cs = d.cs (.slice A d.urls.length a) (.slice A' d.anns.length a') (.slice A2 d.plats.length a2) ∧ DsL I d (.slice A d.urls.length a) (.slice A' d.anns.length a') (.slice A2 d.plats.length a2),
 fun h => by obtain ⟨A, a, A', a', A2, a2, h, _⟩ := h; subst h; rfl, fun h hle => by obtain ⟨A, a, A', a', A2, a2, h, h1⟩ := h; exact ⟨A, a, A', a', A2, a2, h, h1.mono hle⟩⟩
theorem laws_zzFits22 (I : Imm) (d : Ds) (A1 : Option Addr) (n1 c1 : Nat) (A2 : Option Addr) (n2 c2 : Nat) (A3 : Option Addr) (n3 c3 : Nat) (hL : DsL I d (.slice A1 n1 c1) (.slice A2 n2 c2) (.slice A3 n3 c3)) :
  Pure prog 52 [.agg (d.cs (.slice A1 n1 c1) (.slice A2 n2 c2) (.slice A3 n3 c3)).toArray] I fun w J => ∃ r, w = .bool r ∧ (r = true → fitDs d) := by
 obtain ⟨media, size, dig, data, urls, anns, plats, art⟩ := d
 obtain ⟨hu, ha, hp⟩ := hL
 simp only at hu ha hp
 refine Spec.enter 31 [(0, _)] func52 rfl ntmps52 (by simp) rfl ?_
 intro C hCf hR hCI
 refine Run.seq ?_; refine Run.region ?_
 refine Ops.box rfl dc rfl rfl (fun b => ?_)
 repeat (first | refine Run.seq ?_ | refine Run.region ?_ | refine Ops.nil ?_ | refine Ops.gtr rfl (by decide) rfl rfl ?_ | refine Ops.pure T rfl (by decide) rfl ?_ | refine Ops.lenS T rfl (by decide) rfl rfl ?_ | refine Ops.load 0 rfl (by decide) rfl rfl (T.aggOk rfl) rfl ?_)
 refine Run.cond rfl rfl (fun h1 => ?_) (fun h1 => ?_)
 all_goals (try rw [h1])
 all_goals (try simp only [decide_eq_true_eq, decide_eq_false_iff_not, Bool.not_eq_true', Bool.not_eq_false', Bool.and_eq_true, Bool.or_eq_true, Bool.and_eq_false_imp, Bool.or_eq_false_iff] at h1)
 ·skip
  repeat (first | refine Run.seq ?_ | refine Run.region ?_ | refine Ops.nil ?_ | refine Ops.pure T rfl (by decide) rfl ?_)
  refine Run.fin (Run.ret1 (by rw [hCf]; exact func52) results52 rfl (hR _ _ _ ?_))
  exact ⟨rfl, false, rfl, by simp⟩
 repeat (first | refine Run.seq ?_ | refine Run.region ?_ | refine Run.skip ?_ | refine Ops.pure T rfl (by decide) rfl ?_ | refine Ops.loadN 0 rfl (by decide) rfl rfl (T.aggOk rfl) (T.sizeOk rfl) rfl rfl ?_)
 refine Ops.call ((laws_zzFits18 I dig)) rfl dc call77 rfl ?_
 rintro _ J0 l0 ⟨r0, rfl, g0⟩
 repeat (first | refine Ops.nil ?_ | refine Ops.pure T rfl (by decide) rfl ?_)
 cases r0 with
 | false =>
  repeat (first | refine Run.seq ?_ | refine Run.region ?_ | refine Ops.nil ?_ | refine Run.cond_t rfl ?_ | refine Ops.pure T rfl (by decide) rfl ?_)
  refine Run.fin (Run.ret1 (by rw [hCf]; exact func52) results52 rfl (hR _ _ _ ?_))
  exact ⟨rfl, false, rfl, by simp⟩
 | true =>
 repeat (first | refine Run.seq ?_ | refine Run.region ?_ | refine Ops.nil ?_ | refine Run.skip ?_ | refine Run.cond_f rfl ?_ | refine Ops.gtr rfl (by decide) rfl rfl ?_ | refine Ops.pure T rfl (by decide) rfl ?_ | refine Ops.lenS T rfl (by decide) rfl rfl ?_ | refine Ops.load 0 rfl (by decide) rfl rfl (T.aggOk rfl) rfl ?_)
 refine Run.cond rfl rfl (fun h2 => ?_) (fun h2 => ?_)
 all_goals (try rw [h2])
 all_goals (try simp only [decide_eq_true_eq, decide_eq_false_iff_not, Bool.not_eq_true', Bool.not_eq_false', Bool.and_eq_true, Bool.or_eq_true, Bool.and_eq_false_imp, Bool.or_eq_false_iff] at h2)
 ·skip
  repeat (first | refine Run.seq ?_ | refine Run.region ?_ | refine Ops.nil ?_ | refine Ops.pure T rfl (by decide) rfl ?_)
  refine Run.fin (Run.ret1 (by rw [hCf]; exact func52) results52 rfl (hR _ _ _ ?_))
  exact ⟨rfl, false, rfl, by simp⟩
 repeat (first | refine Run.seq ?_ | refine Run.region ?_ | refine Run.skip ?_ | refine Ops.pure T rfl (by decide) rfl ?_ | refine Ops.load 0 rfl (by decide) rfl rfl (T.aggOk rfl) rfl ?_)
 refine Ops.call ((laws_zzFits12 J0 urls _ (hu.mono l0))) rfl dc call34 rfl ?_
 rintro _ J1 l1 ⟨r1, rfl, g1⟩
 repeat (first | refine Ops.nil ?_ | refine Ops.pure T rfl (by decide) rfl ?_)
 cases r1 with
 | false =>
  repeat (first | refine Run.seq ?_ | refine Run.region ?_ | refine Ops.nil ?_ | refine Run.cond_t rfl ?_ | refine Ops.pure T rfl (by decide) rfl ?_)
  refine Run.fin (Run.ret1 (by rw [hCf]; exact func52) results52 rfl (hR _ _ _ ?_))
  exact ⟨rfl, false, rfl, by simp⟩
 | true =>
 repeat (first | refine Run.seq ?_ | refine Run.region ?_ | refine Run.skip ?_ | refine Run.cond_f rfl ?_ | refine Ops.pure T rfl (by decide) rfl ?_ | refine Ops.load 0 rfl (by decide) rfl rfl (T.aggOk rfl) rfl ?_)
 refine Ops.call ((laws_zzFits13 J1 anns _ (ha.mono (l0.trans l1)))) rfl dc call54 rfl ?_
 rintro _ J2 l2 ⟨r2, rfl, g2⟩
 repeat (first | refine Ops.nil ?_ | refine Ops.pure T rfl (by decide) rfl ?_)
 cases r2 with
 | false =>
  repeat (first | refine Run.seq ?_ | refine Run.region ?_ | refine Ops.nil ?_ | refine Run.cond_t rfl ?_ | refine Ops.pure T rfl (by decide) rfl ?_)
  refine Run.fin (Run.ret1 (by rw [hCf]; exact func52) results52 rfl (hR _ _ _ ?_))
  exact ⟨rfl, false, rfl, by simp⟩
 | true =>
 repeat (first | refine Run.seq ?_ | refine Run.region ?_ | refine Run.skip ?_ | refine Run.cond_f rfl ?_ | refine Ops.pure T rfl (by decide) rfl ?_ | refine Ops.load 0 rfl (by decide) rfl rfl (T.aggOk rfl) rfl ?_)
 refine Ops.call ((laws_zzFits23 J2 plats _ (hp.mono ((l0.trans l1).trans l2)))) rfl dc call94 rfl ?_
 rintro _ J3 l3 ⟨r3, rfl, g3⟩
 repeat (first | refine Ops.nil ?_ | refine Ops.pure T rfl (by decide) rfl ?_)
 cases r3 with
 | false =>
  repeat (first | refine Run.seq ?_ | refine Run.region ?_ | refine Ops.nil ?_ | refine Run.cond_t rfl ?_ | refine Ops.pure T rfl (by decide) rfl ?_)
  refine Run.fin (Run.ret1 (by rw [hCf]; exact func52) results52 rfl (hR _ _ _ ?_))
  exact ⟨rfl, false, rfl, by simp⟩
 | true =>
 repeat (first | refine Run.seq ?_ | refine Run.region ?_ | refine Ops.nil ?_ | refine Run.skip ?_ | refine Run.cond_f rfl ?_ | refine Ops.gtr rfl (by decide) rfl rfl ?_ | refine Ops.pure T rfl (by decide) rfl ?_ | refine Ops.lenS T rfl (by decide) rfl rfl ?_ | refine Ops.load 0 rfl (by decide) rfl rfl (T.aggOk rfl) rfl ?_)
 refine Run.cond rfl rfl (fun h9 => ?_) (fun h9 => ?_)
 all_goals (try rw [h9])
 all_goals (try simp only [decide_eq_true_eq, decide_eq_false_iff_not, Bool.not_eq_true', Bool.not_eq_false', Bool.and_eq_true, Bool.or_eq_true, Bool.and_eq_false_imp, Bool.or_eq_false_iff] at h9)
 ·skip
  repeat (first | refine Run.seq ?_ | refine Run.region ?_ | refine Ops.nil ?_ | refine Ops.pure T rfl (by decide) rfl ?_)
  refine Run.fin (Run.ret1 (by rw [hCf]; exact func52) results52 rfl (hR _ _ _ ?_))
  exact ⟨rfl, false, rfl, by simp⟩
 repeat (first | refine Run.seq ?_ | refine Run.region ?_ | refine Ops.nil ?_ | refine Run.skip ?_ | refine Ops.pure T rfl (by decide) rfl ?_)
 refine Run.fin (Run.ret1 (by rw [hCf]; exact func52) results52 rfl (hR _ _ _ ?_))
 exact ⟨rfl, true, rfl, fun _ => ⟨by simp only; omega, g0 rfl, by simp only; omega, g1 rfl, g2 rfl, g3 rfl, by simp only; omega⟩⟩
theorem laws_zzFits29 (I : Imm) (xs : List Ds) (v : Value) (hS : Sl tDs I v xs) : Pure prog 53 [v] I fun w J => ∃ r, w = .bool r ∧ (r = true → xs.length ≤ 2147483647 ∧ ∀ x ∈ xs, fitDs x) := by
 refine Spec.enter 18 [(0, _)] func53 rfl ntmps53 (by simp) rfl ?_
 intro C hCf hR hCI
 repeat (first | refine Run.seq ?_ | refine Run.region ?_ | refine Ops.nil ?_ | refine Ops.pure T rfl (by decide) rfl ?_)
 refine Ops.lenSl (hS) rfl dc rfl (T.undOk rfl) ?_
 repeat (first | refine Ops.nil ?_ | refine Ops.gtr rfl (by decide) rfl rfl ?_)
 refine Run.cond rfl rfl (fun h => ?_) (fun h => ?_)
 all_goals (try rw [h])
 all_goals (try simp only [decide_eq_true_eq, decide_eq_false_iff_not, Bool.not_eq_true', Bool.not_eq_false', Bool.and_eq_true, Bool.or_eq_true, Bool.and_eq_false_imp, Bool.or_eq_false_iff] at h)
 ·skip
  repeat (first | refine Run.seq ?_ | refine Run.region ?_ | refine Ops.nil ?_ | refine Ops.pure T rfl (by decide) rfl ?_)
  refine Run.fin (Run.ret1 (by rw [hCf]; exact func53) results53 rfl (hR _ _ _ ?_))
  exact ⟨rfl, false, rfl, by simp⟩
 repeat (first | refine Run.seq ?_ | refine Run.region ?_ | refine Run.skip ?_ | refine Ops.pure T rfl (by decide) rfl ?_)
 refine Ops.lenSl (hS) rfl dc rfl (T.undOk rfl) ?_
 repeat (first | refine Ops.nil ?_ | refine Run.block ?_ | refine Ops.pure T rfl (by decide) rfl ?_)
 refine Run.keep [8, 9, 10] [_, _, _] rfl ?_
 refine Run.rounds (fun m env L J => ∃ i : Nat, m = xs.length - i ∧ i ≤ xs.length ∧ (∀ x ∈ xs.take i, fitDs x) ∧ env = [(8, v), (9, .int .i64 xs.length), (10, .int .i64 i)] ∧ L = [] ∧ Le I J) xs.length ⟨0, by omega, by omega, by simp, rfl, rfl, Le.refl _⟩ ?_
 rintro m env L J ⟨i, rfl, hi, hall, rfl, rfl, hle⟩ ih
 repeat (first | refine Run.seq ?_ | refine Run.region ?_ | refine Ops.nil ?_ | refine Ops.lss rfl (by decide) rfl rfl ?_)
 refine Run.cond rfl rfl (fun h2 => ?_) (fun h2 => ?_)
 all_goals (try rw [h2])
 all_goals (try simp only [decide_eq_true_eq, decide_eq_false_iff_not, Bool.not_eq_true', Bool.not_eq_false', Bool.and_eq_true, Bool.or_eq_true, Bool.and_eq_false_imp, Bool.or_eq_false_iff] at h2)
 ·skip
  repeat (first | refine Run.seq ?_ | refine Run.region ?_ | refine Run.skip ?_ | refine Run.block ?_)
  refine Ops.indexSl (hS.mono hle) rfl dc rfl rfl (T.undOk rfl) (T.sizeOk rfl) (by omega) (by omega) ?_
  rintro b_ off_ x cs_ hx hr_ hA_
  obtain ⟨A, a, A', a', A2, a2, hr_, hsl⟩ := hr_
  subst hr_
  refine Ops.loadIN rfl dc rfl (hA_) (T.aggOk rfl) (T.sizeOk rfl) rfl ?_
  refine Ops.alloc rfl dc (T.zeroOk rfl) rfl (fun b2 => ?_)
  repeat (first | refine Run.seq ?_ | refine Run.region ?_ | refine Ops.nil ?_ | refine Ops.loadN 0 rfl (by decide) rfl rfl (T.aggOk rfl) (T.sizeOk rfl) rfl rfl ?_ | refine Ops.store 0 rfl rfl rfl rfl rfl (T.sizeOk rfl) rfl (Nat.le_of_ble_eq_true rfl) rfl rfl ?_)
  refine Ops.call ((laws_zzFits22 J x _ _ _ _ _ _ _ _ _ hsl)) rfl dc call52 rfl ?_
  rintro _ J2 hle2 ⟨r, rfl, hr⟩
  repeat (first | refine Ops.nil ?_ | refine Ops.pure T rfl (by decide) rfl ?_)
  rw [Int.toNat_natCast] at hx
  cases r with
  | false =>
   repeat (first | refine Run.seq ?_ | refine Run.region ?_ | refine Ops.nil ?_ | refine Run.cond_t rfl ?_ | refine Ops.pure T rfl (by decide) rfl ?_)
   refine Run.fin (Run.ret1 (by rw [hCf]; exact func53) results53 rfl (hR _ _ _ ?_))
   exact ⟨rfl, false, rfl, by simp⟩
  | true =>
   repeat (first | refine Run.region ?_ | refine Ops.nil ?_ | refine Run.skip ?_ | refine Run.inBlock ?_ | refine Run.cond_f rfl ?_ | refine Ops.add rfl (by decide) rfl rfl (wI (by first | omega | (simp only [List.length_cons, List.length_nil] ; omega) | (simp; omega)) (by first | omega | (simp only [List.length_cons, List.length_nil] ; omega) | (simp; omega))) ?_ | refine Ops.pure T rfl (by decide) rfl ?_)
   refine Run.fin ?_
   refine Run.keep [8, 9, 10] [_, _, _] rfl ?_
   refine ih (xs.length - (i + 1)) _ _ _ (by omega) ⟨i + 1, rfl, by omega, ?_, rfl, rfl, hle.trans hle2⟩
   intro y hy
   rw [List.take_add_one, hx] at hy
   rcases List.mem_append.1 hy with hy | hy
   ·exact hall y hy
   ·simp at hy; subst hy; exact hr rfl
 ·have : i = xs.length := by omega
  subst this
  repeat (first | refine Run.seq ?_ | refine Run.region ?_ | refine Ops.nil ?_ | refine Run.exit rfl ?_ | refine Ops.pure T rfl (by decide) rfl ?_)
  refine Run.fin (Run.ret1 (by rw [hCf]; exact func53) results53 rfl (hR _ _ _ ?_))
  exact ⟨rfl, true, rfl, fun _ => ⟨by omega, by simpa using hall⟩⟩
structure Mf where
 idx : Bool
 ver : Int
 media : List UInt8
 cfg : Ds
 lays : List Ds
 anns : List K2
 subj : List Ds
 art : List UInt8
def Mf.cs (m : Mf) (u v w l a s : Value) : List Value := [.bool m.idx, .int .i64 m.ver, str m.media, str m.cfg.media, .int .i64 m.cfg.size, str m.cfg.dig.1, str m.cfg.dig.2, str m.cfg.data, u, v, w, str m.cfg.art, l, a, s, str m.art]
def MfL (I : Imm) (m : Mf) (u v w l a s : Value) : Prop := DsL I m.cfg u v w ∧ Sl tDs I l m.lays ∧ Sl tK2 I a m.anns ∧ Sl tDs I s m.subj
theorem MfL.mono {I J : Imm} {m : Mf} {u v w l a s : Value} (h : MfL I m u v w l a s) (hle : Le I J) : MfL J m u v w l a s := ⟨h.1.mono hle, h.2.1.mono hle, h.2.2.1.mono hle, h.2.2.2.mono hle⟩
def fitMf (m : Mf) : Prop := m.media.length ≤ 2147483647 ∧ fitDs m.cfg ∧ (m.lays.length ≤ 2147483647 ∧ ∀ x ∈ m.lays, fitDs x) ∧ (m.anns.length ≤ 2147483647 ∧ ∀ x ∈ m.anns, fit2 x) ∧ (m.subj.length ≤ 2147483647 ∧ ∀ x ∈ m.subj, fitDs x) ∧ m.art.length ≤ 2147483647
set_option maxHeartbeats 1000000 in
theorem laws_zzFits28 (I : Imm) (m : Mf) (A1 : Option Addr) (n1 c1 : Nat) (A2 : Option Addr) (n2 c2 : Nat) (A3 : Option Addr) (n3 c3 : Nat) (A4 : Option Addr) (n4 c4 : Nat) (A5 : Option Addr) (n5 c5 : Nat) (A6 : Option Addr) (n6 c6 : Nat)
  (hL : MfL I m (.slice A1 n1 c1) (.slice A2 n2 c2) (.slice A3 n3 c3) (.slice A4 n4 c4) (.slice A5 n5 c5) (.slice A6 n6 c6)) :
  Pure prog 18 [.agg (m.cs (.slice A1 n1 c1) (.slice A2 n2 c2) (.slice A3 n3 c3) (.slice A4 n4 c4) (.slice A5 n5 c5) (.slice A6 n6 c6)).toArray] I fun w J => ∃ r, w = .bool r ∧ (r = true → fitMf m) := by
 obtain ⟨idx, ver, media, cfg, lays, anns, subj, art⟩ := m
 obtain ⟨hd, hl, ha, hs⟩ := hL
 simp only at hd hl ha hs
 refine Spec.enter 27 [(0, _)] func18 rfl ntmps18 (by simp) rfl ?_
 intro C hCf hR hCI
 refine Run.seq ?_; refine Run.region ?_
 refine Ops.box rfl dc rfl rfl (fun b => ?_)
 repeat (first | refine Run.seq ?_ | refine Run.region ?_ | refine Ops.nil ?_ | refine Ops.gtr rfl (by decide) rfl rfl ?_ | refine Ops.pure T rfl (by decide) rfl ?_ | refine Ops.lenS T rfl (by decide) rfl rfl ?_ | refine Ops.load 0 rfl (by decide) rfl rfl (T.aggOk rfl) rfl ?_)
 refine Run.cond rfl rfl (fun h1 => ?_) (fun h1 => ?_)
 all_goals (try rw [h1])
 all_goals (try simp only [decide_eq_true_eq, decide_eq_false_iff_not, Bool.not_eq_true', Bool.not_eq_false', Bool.and_eq_true, Bool.or_eq_true, Bool.and_eq_false_imp, Bool.or_eq_false_iff] at h1)
 ·skip
  repeat (first | refine Run.seq ?_ | refine Run.region ?_ | refine Ops.nil ?_ | refine Ops.pure T rfl (by decide) rfl ?_)
  refine Run.fin (Run.ret1 (by rw [hCf]; exact func18) results18 rfl (hR _ _ _ ?_))
  exact ⟨rfl, false, rfl, by simp⟩
 repeat (first | refine Run.seq ?_ | refine Run.region ?_ | refine Run.skip ?_ | refine Ops.pure T rfl (by decide) rfl ?_ | refine Ops.loadN 0 rfl (by decide) rfl rfl (T.aggOk rfl) (T.sizeOk rfl) rfl rfl ?_)
 refine Ops.call ((laws_zzFits22 I cfg _ _ _ _ _ _ _ _ _ hd)) rfl dc call52 rfl ?_
 rintro _ J0 l0 ⟨r0, rfl, g0⟩
 repeat (first | refine Ops.nil ?_ | refine Ops.pure T rfl (by decide) rfl ?_)
 cases r0 with
 | false =>
  repeat (first | refine Run.seq ?_ | refine Run.region ?_ | refine Ops.nil ?_ | refine Run.cond_t rfl ?_ | refine Ops.pure T rfl (by decide) rfl ?_)
  refine Run.fin (Run.ret1 (by rw [hCf]; exact func18) results18 rfl (hR _ _ _ ?_))
  exact ⟨rfl, false, rfl, by simp⟩
 | true =>
 repeat (first | refine Run.seq ?_ | refine Run.region ?_ | refine Run.skip ?_ | refine Run.cond_f rfl ?_ | refine Ops.pure T rfl (by decide) rfl ?_ | refine Ops.load 0 rfl (by decide) rfl rfl (T.aggOk rfl) rfl ?_)
 refine Ops.call ((laws_zzFits29 J0 lays _ (hl.mono l0))) rfl dc call53 rfl ?_
 rintro _ J1 l1 ⟨r1, rfl, g1⟩
 repeat (first | refine Ops.nil ?_ | refine Ops.pure T rfl (by decide) rfl ?_)
 cases r1 with
 | false =>
  repeat (first | refine Run.seq ?_ | refine Run.region ?_ | refine Ops.nil ?_ | refine Run.cond_t rfl ?_ | refine Ops.pure T rfl (by decide) rfl ?_)
  refine Run.fin (Run.ret1 (by rw [hCf]; exact func18) results18 rfl (hR _ _ _ ?_))
  exact ⟨rfl, false, rfl, by simp⟩
 | true =>
 repeat (first | refine Run.seq ?_ | refine Run.region ?_ | refine Run.skip ?_ | refine Run.cond_f rfl ?_ | refine Ops.pure T rfl (by decide) rfl ?_ | refine Ops.load 0 rfl (by decide) rfl rfl (T.aggOk rfl) rfl ?_)
 refine Ops.call ((laws_zzFits13 J1 anns _ (ha.mono (l0.trans l1)))) rfl dc call54 rfl ?_
 rintro _ J2 l2 ⟨r2, rfl, g2⟩
 repeat (first | refine Ops.nil ?_ | refine Ops.pure T rfl (by decide) rfl ?_)
 cases r2 with
 | false =>
  repeat (first | refine Run.seq ?_ | refine Run.region ?_ | refine Ops.nil ?_ | refine Run.cond_t rfl ?_ | refine Ops.pure T rfl (by decide) rfl ?_)
  refine Run.fin (Run.ret1 (by rw [hCf]; exact func18) results18 rfl (hR _ _ _ ?_))
  exact ⟨rfl, false, rfl, by simp⟩
 | true =>
 repeat (first | refine Run.seq ?_ | refine Run.region ?_ | refine Run.skip ?_ | refine Run.cond_f rfl ?_ | refine Ops.pure T rfl (by decide) rfl ?_ | refine Ops.load 0 rfl (by decide) rfl rfl (T.aggOk rfl) rfl ?_)
 refine Ops.call ((laws_zzFits29 J2 subj _ (hs.mono ((l0.trans l1).trans l2)))) rfl dc call53 rfl ?_
 rintro _ J3 l3 ⟨r3, rfl, g3⟩
 repeat (first | refine Ops.nil ?_ | refine Ops.pure T rfl (by decide) rfl ?_)
 cases r3 with
 | false =>
  repeat (first | refine Run.seq ?_ | refine Run.region ?_ | refine Ops.nil ?_ | refine Run.cond_t rfl ?_ | refine Ops.pure T rfl (by decide) rfl ?_)
  refine Run.fin (Run.ret1 (by rw [hCf]; exact func18) results18 rfl (hR _ _ _ ?_))
  exact ⟨rfl, false, rfl, by simp⟩
 | true =>
 repeat (first | refine Run.seq ?_ | refine Run.region ?_ | refine Ops.nil ?_ | refine Run.skip ?_ | refine Run.cond_f rfl ?_ | refine Ops.gtr rfl (by decide) rfl rfl ?_ | refine Ops.pure T rfl (by decide) rfl ?_ | refine Ops.lenS T rfl (by decide) rfl rfl ?_ | refine Ops.load 0 rfl (by decide) rfl rfl (T.aggOk rfl) rfl ?_)
 refine Run.cond rfl rfl (fun h9 => ?_) (fun h9 => ?_)
 all_goals (try rw [h9])
 all_goals (try simp only [decide_eq_true_eq, decide_eq_false_iff_not, Bool.not_eq_true', Bool.not_eq_false', Bool.and_eq_true, Bool.or_eq_true, Bool.and_eq_false_imp, Bool.or_eq_false_iff] at h9)
 ·skip
  repeat (first | refine Run.seq ?_ | refine Run.region ?_ | refine Ops.nil ?_ | refine Ops.pure T rfl (by decide) rfl ?_)
  refine Run.fin (Run.ret1 (by rw [hCf]; exact func18) results18 rfl (hR _ _ _ ?_))
  exact ⟨rfl, false, rfl, by simp⟩
 repeat (first | refine Run.seq ?_ | refine Run.region ?_ | refine Ops.nil ?_ | refine Run.skip ?_ | refine Ops.pure T rfl (by decide) rfl ?_)
 refine Run.fin (Run.ret1 (by rw [hCf]; exact func18) results18 rfl (hR _ _ _ ?_))
 exact ⟨rfl, true, rfl, fun _ => ⟨by simp only; omega, g0 rfl, g1 rfl, g2 rfl, g3 rfl, by simp only; omega⟩⟩
end Go.V
namespace Go.V
open Go.Proofs.Tryz
open Go.RowKit
set_option maxRecDepth 10000
attribute [local irreducible] Run Ops QD
theorem encR_dig (k : Nat) (h : k < 10) : encR (48 + (k : Int)) = [UInt8.ofNat (48 + k)] := by
 rw [encR_ascii _ (by omega) (by omega)]
 congr 2
theorem dgF_app (f m : Nat) (h : 0 < m) (s : Bs) : dgF f (m / 10) ++ ([UInt8.ofNat (48 + m % 10)] ++ s) = dgF (f + 1) m ++ s := by
 rw [dgF_step f m s h]; rfl
theorem tmP (m : Nat) : ((m : Nat) : Int).tmod 10 = ((m % 10 : Nat) : Int) := rfl
theorem tmN (m : Nat) : (-((m : Nat) : Int)).tmod 10 = -((m % 10 : Nat) : Int) := by rw [Int.neg_tmod]; rfl
theorem tdP (m : Nat) : ((m : Nat) : Int).tdiv 10 = ((m / 10 : Nat) : Int) := rfl
theorem tdN (m : Nat) : (-((m : Nat) : Int)).tdiv 10 = -((m / 10 : Nat) : Int) := by rw [Int.neg_tdiv]; rfl
set_option maxHeartbeats 4000000 in
theorem spec_jNumber (I : Imm) (n : Int) (h1 : -9223372036854775808 ≤ n) (h2 : n ≤ 9223372036854775807) : Pure prog 56 [.int .i64 n] I fun w J => w = .agg [.int .u8 110, str (numT n), .slice none 0 0].toArray := by
 refine Spec.enter 32 [(0, _)] func56 rfl ntmps56 (by simp) rfl ?_
 intro C hCf hR hCI
 refine Run.seq ?_
 refine Run.region ?_
 refine Ops.alloc rfl dc (T.zeroOk rfl) rfl (fun b2 => ?_)
 refine Ops.nil ?_
 repeat refine Run.seq ?_
 by_cases h0 : n = 0
 ·subst h0
  refine Run.regionO (D := [some 6, some 7]) [true, true] rfl rfl rfl (fun Z hZ => ?_)
  refine q1 dc rfl rfl ?_
  refine QD.e (Ev.eqlI rfl rfl) dc rfl ?_
  refine QD.nil (hZ _ ?_)
  clear hZ Z
  repeat (first | refine Run.seq ?_ | refine Run.cond_t rfl ?_)
  refine Run.region ?_
  refine Ops.buildL bd39 rfl dc rfl rfl ?_
  refine Ops.store 0 rfl rfl rfl rfl rfl (T.sizeOk rfl) rfl (Nat.le_of_ble_eq_true rfl) rfl rfl ?_
  refine Ops.nil ?_
  skip
  refine Run.retC T 0 (by rw [hCf]; exact func56) results56 rfl rfl rfl rfl rfl rfl (hR _ _ _ ?_)
  exact ⟨rfl, rfl⟩
 ·skip
  refine Run.regionO (D := [some 6, some 7]) [true, true] rfl rfl rfl (fun Z hZ => ?_)
  refine q1 dc rfl rfl ?_
  refine qf (Ev.eqlI rfl rfl) h0 dc rfl ?_
  refine QD.nil (hZ _ ?_)
  clear hZ Z
  repeat (first | refine Run.seq ?_ | refine Run.skip ?_ | refine Run.cond_f rfl ?_)
  by_cases hneg : n < 0
  ·skip
   refine Run.regionO (D := [some 9, some 10, some 3, some 4]) [true, true, true, true] rfl rfl rfl (fun Z hZ => ?_)
   refine q1 dc rfl rfl ?_
   refine qt (Ev.lss rfl rfl) hneg dc rfl ?_
   iterate 2 refine q1 dc rfl rfl ?_
   refine QD.nil (hZ _ ?_)
   clear hZ Z
   refine Run.seq ?_; refine Run.block ?_
   refine Run.keep [0, 2, 3, 4] [_, _, _, _] rfl ?_
   refine Run.rounds (fun mm env L J => ∃ (k m : Nat) (s : Bs), mm = m ∧ k ≤ 20 ∧ m < 10 ^ (20 - k) ∧ m ≤ 9223372036854775808 ∧ dgF (20 - k) m ++ s = dgF 20 n.natAbs ∧ env = [(0, .int .i64 (-(m : Int))), (2, .pointer (some ⟨b2, 0, none⟩)), (3, str s), (4, .bool true)] ∧ L = [(b2, blk [.int .u8 0, str [], .slice none 0 0] 39)] ∧ I = J) n.natAbs ⟨0, n.natAbs, [], rfl, by omega, by show _ < 10 ^ 20; omega, by omega, by simp, by rw [show -((n.natAbs : Nat) : Int) = n by omega]; rfl, rfl, rfl⟩ ?_
   rintro m env L J ⟨k, _, s, rfl, hk, hmb, hm63, hs, rfl, rfl, rfl⟩ ih
   have hsl : s.length ≤ 20 := by have := congrArg List.length hs; rw [List.length_append] at this; have := dgF_len 20 n.natAbs; omega
   by_cases hm : m = 0
   ·subst hm
    rw [dgF_zero, List.nil_append] at hs
    subst hs
    repeat refine Run.seq ?_
    refine Run.regionO (D := [some 11, some 12]) [true, true] rfl rfl rfl (fun Z hZ => ?_)
    refine q1 dc rfl rfl ?_
    refine QD.e ((Ev.neqI rfl rfl).as (show _ = Value.bool false from congrArg Value.bool (by simp))) dc rfl ?_
    refine QD.nil (hZ _ ?_)
    clear hZ Z
    repeat (first | refine Run.seq ?_ | refine Run.exit rfl ?_ | refine Run.cond_f rfl ?_)
    refine Run.regionO (D := [some 27]) [true] rfl rfl rfl (fun Z hZ => ?_)
    refine q1 dc rfl rfl ?_
    refine QD.nil (hZ _ ?_)
    clear hZ Z
    refine Run.cond_t rfl ?_
    refine Run.regionO (D := [some 28, some 29, some 3]) [true, true, true] rfl rfl rfl (fun Z hZ => ?_)
    refine q1 dc rfl rfl ?_
    refine QD.e (Ev.catS rfl rfl (by simp; omega)) dc rfl ?_
    refine q1 dc rfl rfl ?_
    refine QD.nil (hZ _ ?_)
    clear hZ Z
    refine Run.seq ?_
    refine Run.region ?_
    refine Ops.pure T rfl dc rfl ?_
    refine Ops.buildL bd39 rfl dc rfl rfl ?_
    refine Ops.store 0 rfl rfl rfl rfl rfl (T.sizeOk rfl) rfl (Nat.le_of_ble_eq_true rfl) rfl rfl ?_
    refine Ops.nil ?_
    skip
    refine Run.retC T 0 (by rw [hCf]; exact func56) results56 rfl rfl rfl rfl rfl rfl (hR _ _ _ ?_)
    refine ⟨rfl, ?_⟩
    show _ = Value.agg [.int .u8 110, str (numT n), .slice none 0 0].toArray
    unfold numT
    rw [if_neg h0, if_pos hneg]
    rfl
   ·skip
    repeat refine Run.seq ?_
    refine Run.regionO (D := [some 11, some 12]) [true, true] rfl rfl rfl (fun Z hZ => ?_)
    refine q1 dc rfl rfl ?_
    refine QD.e ((Ev.neqI rfl rfl).as (show _ = Value.bool true from congrArg Value.bool (by simp; omega))) dc rfl ?_
    refine QD.nil (hZ _ ?_)
    clear hZ Z
    repeat (first | refine Run.seq ?_ | refine Run.skip ?_ | refine Run.block ?_ | refine Run.cond_t rfl ?_)
    have hk20 : k < 20 := by
     refine Nat.lt_of_not_le fun h => ?_
     have : k = 20 := by omega
     subst this
     simp at hmb
     omega
    refine Run.regionO (D := [some 13, some 14, some 5]) [true, true, true] rfl rfl rfl (fun Z hZ => ?_)
    refine q1 dc rfl rfl ?_
    refine QD.e (Ev.remI (r := -((m % 10 : Nat) : Int)) rfl rfl dc (tmN m)) dc rfl ?_
    refine q1 dc rfl rfl ?_
    refine QD.nil (hZ _ ?_)
    clear hZ Z
    repeat refine Run.seq ?_
    refine Run.regionO (D := [some 15, some 16]) [true, true] rfl rfl rfl (fun Z hZ => ?_)
    refine q1 dc rfl rfl ?_
    refine QD.e (Ev.lss rfl rfl) dc rfl ?_
    refine QD.nil (hZ _ ?_)
    clear hZ Z
    skip
    refine Run.keep [0, 2, 3, 4, 5, 16] [_, _, _, _, _, _] rfl ?_
    refine Run.piece (fun env' L' I' => env' = [(0, .int .i64 (-(m : Int))), (2, .pointer (some ⟨b2, 0, none⟩)), (3, str s), (4, .bool true), (5, .int .i64 ((m % 10 : Nat) : Int))] ∧ L' = [(b2, blk [.int .u8 0, str [], .slice none 0 0] 39)] ∧ I = I') ?_ ?_
    ·intro k' fin
     by_cases hd : m % 10 = 0
     ·rw [show decide (-((m % 10 : Nat) : Int) < 0) = false from decide_eq_false (by omega)]
      repeat (first | refine Run.skip ?_ | refine Run.cond_f rfl ?_)
      refine Run.keep [0, 2, 3, 4, 5] [_, _, _, _, _] rfl ?_
      exact fin _ _ _ ⟨by rw [hd]; rfl, rfl, rfl⟩
     ·rw [show decide (-((m % 10 : Nat) : Int) < 0) = true from decide_eq_true (by omega)]
      refine Run.cond_t rfl ?_
      refine Run.regionO (D := [some 17, some 18, some 5]) [true, true, true] rfl rfl rfl (fun Z hZ => ?_)
      refine q1 dc rfl rfl ?_
      refine QD.e (Ev.negI (r := ((m % 10 : Nat) : Int)) rfl (by rw [wI (by omega) (by omega)]; omega)) dc rfl ?_
      refine q1 dc rfl rfl ?_
      refine QD.nil (hZ _ ?_)
      clear hZ Z
      skip
      refine Run.keep [0, 2, 3, 4, 5] [_, _, _, _, _] rfl ?_
      exact fin _ _ _ ⟨rfl, rfl, rfl⟩
    rintro env L J ⟨rfl, rfl, rfl⟩
    refine Run.seq ?_
    refine Run.regionO (D := [some 19, some 20, some 21, some 22, some 23, some 24, some 3]) [true, true, true, true, true, true, true] rfl rfl rfl (fun Z hZ => ?_)
    refine q1 dc rfl rfl ?_
    refine QD.e (Ev.addK (r := 48 + ((m % 10 : Nat) : Int)) rfl rfl (by rw [wI (by omega) (by omega)])) dc rfl ?_
    refine QD.e (Ev.conv (r := 48 + ((m % 10 : Nat) : Int)) T rfl rfl rfl (wI32 (by omega) (by omega))) dc rfl ?_
    refine QD.e ((Ev.convRune T rfl rfl rfl).as (show _ = str [UInt8.ofNat (48 + m % 10)] from by rw [encR_dig _ (by omega)])) dc rfl ?_
    refine q1 dc rfl rfl ?_
    refine QD.e (Ev.catS rfl rfl (by simp; omega)) dc rfl ?_
    refine q1 dc rfl rfl ?_
    refine QD.nil (hZ _ ?_)
    clear hZ Z
    skip
    refine Run.regionO (D := [some 25, some 26, some 0]) [true, true, true] rfl rfl rfl (fun Z hZ => ?_)
    refine q1 dc rfl rfl ?_
    refine QD.e (Ev.quoI (r := -((m / 10 : Nat) : Int)) rfl rfl dc (by rw [tdN, wI (by omega) (by omega)])) dc rfl ?_
    refine q1 dc rfl rfl ?_
    refine QD.nil (hZ _ ?_)
    clear hZ Z
    refine Run.inBlock ?_
    refine Run.keep [0, 2, 3, 4] [_, _, _, _] rfl ?_
    obtain ⟨f, hf⟩ : ∃ f, 20 - k = f + 1 := ⟨20 - k - 1, by omega⟩
    refine ih (m / 10) _ _ _ (by omega) ⟨k + 1, m / 10, [UInt8.ofNat (48 + m % 10)] ++ s, rfl, by omega, ?_, by omega, ?_, rfl, rfl, rfl⟩
    ·rw [show 20 - (k + 1) = f by omega]
     rw [hf, Nat.pow_succ] at hmb
     exact Nat.div_lt_of_lt_mul (by omega)
    ·rw [show 20 - (k + 1) = f by omega, dgF_app f m (by omega), ← hf]; exact hs
  ·skip
   refine Run.regionO (D := [some 9, some 10, some 3, some 4]) [true, true, true, true] rfl rfl rfl (fun Z hZ => ?_)
   refine q1 dc rfl rfl ?_
   refine qf (Ev.lss rfl rfl) hneg dc rfl ?_
   iterate 2 refine q1 dc rfl rfl ?_
   refine QD.nil (hZ _ ?_)
   clear hZ Z
   refine Run.seq ?_; refine Run.block ?_
   refine Run.keep [0, 2, 3, 4] [_, _, _, _] rfl ?_
   refine Run.rounds (fun mm env L J => ∃ (k m : Nat) (s : Bs), mm = m ∧ k ≤ 20 ∧ m < 10 ^ (20 - k) ∧ m ≤ 9223372036854775808 ∧ dgF (20 - k) m ++ s = dgF 20 n.natAbs ∧ env = [(0, .int .i64 (m : Int)), (2, .pointer (some ⟨b2, 0, none⟩)), (3, str s), (4, .bool false)] ∧ L = [(b2, blk [.int .u8 0, str [], .slice none 0 0] 39)] ∧ I = J) n.natAbs ⟨0, n.natAbs, [], rfl, by omega, by show _ < 10 ^ 20; omega, by omega, by simp, by rw [show ((n.natAbs : Nat) : Int) = n by omega]; rfl, rfl, rfl⟩ ?_
   rintro m env L J ⟨k, _, s, rfl, hk, hmb, hm63, hs, rfl, rfl, rfl⟩ ih
   have hsl : s.length ≤ 20 := by have := congrArg List.length hs; rw [List.length_append] at this; have := dgF_len 20 n.natAbs; omega
   by_cases hm : m = 0
   ·subst hm
    rw [dgF_zero, List.nil_append] at hs
    subst hs
    repeat refine Run.seq ?_
    refine Run.regionO (D := [some 11, some 12]) [true, true] rfl rfl rfl (fun Z hZ => ?_)
    refine q1 dc rfl rfl ?_
    refine QD.e ((Ev.neqI rfl rfl).as (show _ = Value.bool false from congrArg Value.bool (by simp))) dc rfl ?_
    refine QD.nil (hZ _ ?_)
    clear hZ Z
    repeat (first | refine Run.seq ?_ | refine Run.exit rfl ?_ | refine Run.cond_f rfl ?_)
    refine Run.regionO (D := [some 27]) [true] rfl rfl rfl (fun Z hZ => ?_)
    refine q1 dc rfl rfl ?_
    refine QD.nil (hZ _ ?_)
    clear hZ Z
    repeat (first | refine Run.seq ?_ | refine Run.skip ?_ | refine Run.cond_f rfl ?_)
    skip
    refine Run.region ?_
    refine Ops.pure T rfl dc rfl ?_
    refine Ops.buildL bd39 rfl dc rfl rfl ?_
    refine Ops.store 0 rfl rfl rfl rfl rfl (T.sizeOk rfl) rfl (Nat.le_of_ble_eq_true rfl) rfl rfl ?_
    refine Ops.nil ?_
    skip
    refine Run.retC T 0 (by rw [hCf]; exact func56) results56 rfl rfl rfl rfl rfl rfl (hR _ _ _ ?_)
    refine ⟨rfl, ?_⟩
    show _ = Value.agg [.int .u8 110, str (numT n), .slice none 0 0].toArray
    unfold numT
    rw [if_neg h0, if_neg hneg]
    rfl
   ·skip
    repeat refine Run.seq ?_
    refine Run.regionO (D := [some 11, some 12]) [true, true] rfl rfl rfl (fun Z hZ => ?_)
    refine q1 dc rfl rfl ?_
    refine QD.e ((Ev.neqI rfl rfl).as (show _ = Value.bool true from congrArg Value.bool (by simp; omega))) dc rfl ?_
    refine QD.nil (hZ _ ?_)
    clear hZ Z
    repeat (first | refine Run.seq ?_ | refine Run.skip ?_ | refine Run.block ?_ | refine Run.cond_t rfl ?_)
    have hk20 : k < 20 := by
     refine Nat.lt_of_not_le fun h => ?_
     have : k = 20 := by omega
     subst this
     simp at hmb
     omega
    refine Run.regionO (D := [some 13, some 14, some 5]) [true, true, true] rfl rfl rfl (fun Z hZ => ?_)
    refine q1 dc rfl rfl ?_
    refine QD.e (Ev.remI (r := ((m % 10 : Nat) : Int)) rfl rfl dc (tmP m)) dc rfl ?_
    refine q1 dc rfl rfl ?_
    refine QD.nil (hZ _ ?_)
    clear hZ Z
    repeat refine Run.seq ?_
    refine Run.regionO (D := [some 15, some 16]) [true, true] rfl rfl rfl (fun Z hZ => ?_)
    refine q1 dc rfl rfl ?_
    refine qf (Ev.lss rfl rfl) (by omega) dc rfl ?_
    refine QD.nil (hZ _ ?_)
    clear hZ Z
    repeat (first | refine Run.seq ?_ | refine Run.skip ?_ | refine Run.cond_f rfl ?_)
    refine Run.regionO (D := [some 19, some 20, some 21, some 22, some 23, some 24, some 3]) [true, true, true, true, true, true, true] rfl rfl rfl (fun Z hZ => ?_)
    refine q1 dc rfl rfl ?_
    refine QD.e (Ev.addK (r := 48 + ((m % 10 : Nat) : Int)) rfl rfl (by rw [wI (by omega) (by omega)])) dc rfl ?_
    refine QD.e (Ev.conv (r := 48 + ((m % 10 : Nat) : Int)) T rfl rfl rfl (wI32 (by omega) (by omega))) dc rfl ?_
    refine QD.e ((Ev.convRune T rfl rfl rfl).as (show _ = str [UInt8.ofNat (48 + m % 10)] from by rw [encR_dig _ (by omega)])) dc rfl ?_
    refine q1 dc rfl rfl ?_
    refine QD.e (Ev.catS rfl rfl (by simp; omega)) dc rfl ?_
    refine q1 dc rfl rfl ?_
    refine QD.nil (hZ _ ?_)
    clear hZ Z
    skip
    refine Run.regionO (D := [some 25, some 26, some 0]) [true, true, true] rfl rfl rfl (fun Z hZ => ?_)
    refine q1 dc rfl rfl ?_
    refine QD.e (Ev.quoI (r := ((m / 10 : Nat) : Int)) rfl rfl dc (by rw [tdP, wI (by omega) (by omega)])) dc rfl ?_
    refine q1 dc rfl rfl ?_
    refine QD.nil (hZ _ ?_)
    clear hZ Z
    refine Run.inBlock ?_
    refine Run.keep [0, 2, 3, 4] [_, _, _, _] rfl ?_
    obtain ⟨f, hf⟩ : ∃ f, 20 - k = f + 1 := ⟨20 - k - 1, by omega⟩
    refine ih (m / 10) _ _ _ (by omega) ⟨k + 1, m / 10, [UInt8.ofNat (48 + m % 10)] ++ s, rfl, by omega, ?_, by omega, ?_, rfl, rfl, rfl⟩
    ·rw [show 20 - (k + 1) = f by omega]
     rw [hf, Nat.pow_succ] at hmb
     exact Nat.div_lt_of_lt_mul (by omega)
    ·rw [show 20 - (k + 1) = f by omega, dgF_app f m (by omega), ← hf]; exact hs
end Go.V
namespace Go.V
open Go.Proofs.Tryz
open Go.RowKit
set_option maxRecDepth 10000
attribute [local irreducible] Run Ops QD
def lsJ (l : List Bs) : Js := .mk 108 [] (l.map txJ)
def prJs (l : List K2) : List Js := l.flatMap fun q => [txJ q.1, txJ q.2]
def paJ (l : List K2) : Js := .mk 111 [] (prJs l)
def opL (name : Bs) (l : List Bs) : List Js := if l = [] then [] else [txJ name, lsJ l]
def opP (name : Bs) (l : List K2) : List Js := if l = [] then [] else [txJ name, paJ l]
theorem opJ_len (k s : Bs) : (opJ k s).length ≤ 2 := by unfold opJ; split <;> simp
theorem opL_len (k : Bs) (l : List Bs) : (opL k l).length ≤ 2 := by unfold opL; split <;> simp
theorem opP_len (k : Bs) (l : List K2) : (opP k l).length ≤ 2 := by unfold opP; split <;> simp
theorem nuJ_rel (d : Nat) (I : Imm) (n : Int) : (tJs (d + 1)).rel I [.int .u8 110, str (numT n), .slice none 0 0] (nuJ n) := ⟨.slice none 0 0, rfl, sl_nil _ _⟩
set_option maxHeartbeats 2000000 in
theorem spec_jTexts (d : Nat) (I : Imm) (xs : List Bs) (v : Value) (hS : Sl tStr I v xs) (hl : xs.length ≤ 1000000) : Pure prog 93 [v] I fun w J => ∃ vk, w = .agg [.int .u8 108, str [], vk].toArray ∧ Sl (tJs (d + 1)) J vk (xs.map txJ) := by
 obtain ⟨A0, c0, rfl⟩ := hS.isSl
 refine Spec.enter 22 [(0, _)] func93 rfl ntmps93 (by simp) rfl ?_
 intro C hCf hR hCI
 refine Run.seq ?_
 refine Run.region ?_
 refine Ops.alloc rfl dc (T.zeroOk rfl) rfl (fun b2 => ?_)
 refine Ops.nil ?_
 refine Run.seq ?_
 refine Run.region ?_
 refine Ops.buildL bd39 rfl dc rfl rfl ?_
 refine Ops.alloc rfl dc (T.zeroOk rfl) rfl (fun b3 => ?_)
 refine Ops.store 0 rfl rfl rfl rfl rfl (T.sizeOk rfl) rfl (Nat.le_of_ble_eq_true rfl) rfl rfl ?_
 refine Ops.nil ?_
 repeat refine Run.seq ?_
 refine Run.regionO (D := [some 7, some 8, some 9]) [true, true, true] rfl rfl rfl (fun Z hZ => ?_)
 iterate 3 refine q1 dc rfl rfl ?_
 refine QD.nil (hZ _ ?_)
 clear hZ Z
 refine Run.block ?_
 refine Run.keep [2, 3, 7, 8, 9] [_, _, _, _, _] rfl ?_
 refine Run.rounds (fun m env L J => ∃ (i : Nat) (vk : Value) (M : Own), m = xs.length - i ∧ i ≤ xs.length ∧ Gr (tJs (d + 1)) J 39 vk ((xs.take i).map txJ) M ∧
  env = [(2, .pointer (some ⟨b2, 0, none⟩)), (3, .pointer (some ⟨b3, 0, none⟩)), (7, .slice A0 xs.length c0), (8, .int .i64 (xs.length : Int)), (9, .int .i64 (i : Int))] ∧
  L = (b3, blk [.int .u8 108, str [], vk] 39) :: (b2, blk [.int .u8 0, str [], .slice none 0 0] 39) :: M ∧ Le I J) xs.length ⟨0, _, [], by omega, by omega, Gr.nil _ _ _, rfl, rfl, Le.refl _⟩ ?_
 rintro m env L J ⟨i, vk, M, rfl, hi, hG, rfl, rfl, hle⟩ ih
 by_cases hlt : i < xs.length
 ·skip
  refine Run.seq ?_
  refine Run.regionO (D := [some 10]) [true] rfl rfl rfl (fun Z hZ => ?_)
  refine qt (Ev.lss rfl rfl) (by omega) dc rfl ?_
  refine QD.nil (hZ _ ?_)
  clear hZ Z
  repeat (first | refine Run.seq ?_ | refine Run.skip ?_ | refine Run.block ?_ | refine Run.cond_t rfl ?_)
  refine Run.region ?_
  refine Ops.indexSl (j := (i : Int)) (hS.mono hle) rfl dc rfl rfl (T.undOk rfl) (T.sizeOk rfl) (by omega) (by omega) fun bb off q cs hq hr hA => ?_
  obtain rfl : cs = [str q] := hr
  rw [Int.toNat_natCast] at hq
  refine Ops.loadI rfl dc rfl hA (T.aggOk rfl) ?_
  refine Ops.pure T rfl dc rfl ?_
  refine Ops.nil ?_
  skip
  have hkl : ((xs.take i).map txJ).length ≤ 1000000 := by rw [List.length_map, List.length_take]; omega
  refine Run.regionL [7] (Holds J []) (Holds J [(b3, blk [.int .u8 108, str [], vk] 39)]) (bl 8 0) (by kernel_rfl) (by kernel_rfl) (fun W h => ⟨h.holds (Le.refl _) (by first | exact mp rfl | exact mq rfl | exact mr rfl), h.holds (Le.refl _) (by first | exact mp rfl | exact mq rfl | exact mr rfl)⟩) ?_
  refine RAnyL.tk 0 (bl 8 1) rfl (by kernel_rfl) dc rfl (T := fun _ => True) (.inl fun _ _ => trivial) (Yld.eval T rfl rfl) ?_
  refine RAnyL.tk 1 (bl 8 3) rfl (by kernel_rfl) dc rfl (.inr ⟨by kernel_rfl, fun _ h => h⟩) (Yld.load 0 T rfl rfl rfl rfl rfl) ?_
  refine RAnyL.tk 2 (bl 8 7) rfl (by kernel_rfl) dc rfl (T := fun _ => True) (.inl fun _ _ => trivial) (Yld.eval T rfl rfl) ?_
  refine RAnyL.on 3 (bl 8 15) rfl (by kernel_rfl) rfl dc (Eff.call (spec_jText J q) call44 rfl fun y J2 l2 hy => ⟨⟨fun W h => h.holds l2 (fun _ h => by cases h), .inr fun W h => h.holds l2 (by exact mp rfl)⟩, ?_⟩)
  obtain rfl := hy
  refine RAnyL.on 4 (bl 8 31) rfl (by kernel_rfl) rfl dc (Eff.lit T rfl rfl rfl dc dc rfl rfl rfl rfl rfl fun bq => ⟨⟨fun W h => h.holds l2 (fun _ h => by cases h), .inr fun W h => h.holds l2 (by exact mq rfl)⟩, ?_⟩)
  refine RAnyL.on 5 (bl 8 63) rfl (by kernel_rfl) rfl dc (Eff.appOneP (t := tJs (d + 1)) (b := bq) (M := M) (N := [_, _, _]) el37 (hG.mono l2) (txJ_rel d J2 q) rfl rfl (List.perm_append_comm (l₁ := [_, _, _]) (l₂ := M)) List.mem_cons_self rfl (by omega) (by omega) fun v' M' hG' => ⟨⟨fun W h => h.holds l2 (fun _ h => by cases h), .inr fun W h => h.holds l2 (by intro x hx; rcases List.mem_singleton.1 hx with rfl; exact List.mem_append_right _ (List.mem_cons_of_mem _ List.mem_cons_self))⟩, ?_⟩)
  obtain ⟨A', c', rfl⟩ := hG'.isSl
  refine RAnyL.perm (List.perm_append_comm (l₁ := M') (l₂ := [_, _, _])) ?_
  skip
  refine RAnyL.tk 6 (bl 8 127) rfl (by kernel_rfl) dc rfl (T := fun _ => True) (.inl fun _ _ => trivial) (Yld.eval T rfl rfl) ?_
  refine RAnyL.os 7 (bl 8 255) rfl (by kernel_rfl) rfl (Eff.store 1 rfl rfl rfl rfl (T.sizeOk rfl) rfl (Nat.le_of_ble_eq_true rfl) rfl rfl ⟨⟨fun W h => h.holds l2 (fun _ h => by cases h), .inl rfl⟩, ?_⟩)
  refine RAnyL.done _ (by kernel_rfl) ?_
  skip
  refine Run.inBlock ?_
  refine Run.dropL (List.sublist_cons_self _ _) ?_
  refine Run.regionO (D := [some 20, some 9]) [true, true] rfl rfl rfl (fun Z hZ => ?_)
  refine QD.e (Ev.addK (r := ((i + 1 : Nat) : Int)) rfl rfl (by rw [wI (by omega) (by omega)]; omega)) dc rfl ?_
  refine q1 dc rfl rfl ?_
  refine QD.nil (hZ _ ?_)
  clear hZ Z
  skip
  refine Run.keep [2, 3, 7, 8, 9] [_, _, _, _, _] rfl ?_
  refine ih (xs.length - (i + 1)) _ _ _ (by omega) ⟨i + 1, _, M', rfl, by omega, ?_, rfl, rfl, hle.trans l2⟩
  obtain ⟨hi', rfl⟩ := List.getElem?_eq_some_iff.1 hq
  rw [List.take_succ_eq_append_getElem hi', List.map_append]
  exact hG'
 ·obtain rfl : i = xs.length := by omega
  rw [List.take_length] at hG
  refine Run.seq ?_
  refine Run.regionO (D := [some 10]) [true] rfl rfl rfl (fun Z hZ => ?_)
  refine qf (Ev.lss rfl rfl) (by omega) dc rfl ?_
  refine QD.nil (hZ _ ?_)
  clear hZ Z
  repeat (first | refine Run.seq ?_ | refine Run.exit rfl ?_ | refine Run.cond_f rfl ?_)
  refine Run.keepGr hG (N := [_, _]) (List.perm_append_comm (l₁ := [_, _]) (l₂ := M)) fun J5 l5 hSl => ?_
  obtain ⟨A', c', rfl⟩ := hSl.isSl
  refine Run.region ?_
  refine Ops.loadN 0 rfl dc rfl rfl (T.aggOk rfl) (T.sizeOk rfl) rfl rfl ?_
  refine Ops.store 1 rfl rfl rfl rfl rfl (T.sizeOk rfl) rfl (Nat.le_of_ble_eq_true rfl) rfl rfl ?_
  refine Ops.nil ?_
  skip
  refine Run.retC T 1 (by rw [hCf]; exact func93) results93 rfl rfl rfl rfl rfl rfl (hR _ _ _ ?_)
  exact ⟨rfl, _, rfl, hSl⟩
theorem object_texts (d : Nat) (I : Imm) (b : Nat) (name : Bs) (xs : List Bs) (v : Value) (hS : Sl tStr I v xs) (hl : xs.length ≤ 1000000) (kids : List Js) (vk : Value) (M : Own) (hG : Gr (tJs (d + 2)) I 39 vk kids M) (hkl : kids.length ≤ 1000000) :
  Spec prog 50 [.pointer (some ⟨b, 0, none⟩), str name, v] I ((b, obj vk) :: M) fun _ J N => ∃ vk' M', N = (b, obj vk') :: M' ∧ Gr (tJs (d + 2)) J 39 vk' (kids ++ opL name xs) M' := by
 obtain ⟨A0, c0, rfl⟩ := hS.isSl
 refine Spec.enter 14 [(0, _), (1, _), (2, _)] func50 rfl ntmps50 (by simp) rfl ?_
 intro C hCf hR hCI
 refine Run.seq ?_
 by_cases h0 : xs = []
 ·subst h0
  refine Run.regionO (D := [some 6, some 7, some 8]) [true, true, true] rfl rfl rfl (fun Z hZ => ?_)
  iterate 2 refine q1 dc rfl rfl ?_
  refine QD.e (Ev.gtr rfl rfl) dc rfl ?_
  refine QD.nil (hZ _ ?_)
  clear hZ Z
  repeat (first | refine Run.skip ?_ | refine Run.cond_f rfl ?_)
  refine Run.end0 (by rw [hCf]; exact func50) results50 (hR _ _ _ ?_)
  exact ⟨vk, M, rfl, by simpa [opL] using hG⟩
 ·have hp := List.length_pos_iff.2 h0
  refine Run.regionO (D := [some 6, some 7, some 8]) [true, true, true] rfl rfl rfl (fun Z hZ => ?_)
  iterate 2 refine q1 dc rfl rfl ?_
  refine qt (Ev.gtr rfl rfl) (by omega) dc rfl ?_
  refine QD.nil (hZ _ ?_)
  clear hZ Z
  refine Run.cond_t rfl ?_
  refine Run.regionP (D := [some 9, some 10, some 11, some 12, some 13]) [true, true, true] 3 rfl rfl rfl (by simp only [List.drop_succ_cons, List.drop_zero]; rfl) (fun Z hZ => ?_)
  iterate 3 refine q1 dc rfl rfl ?_
  refine QD.nil (hZ _ ?_)
  clear hZ Z
  refine Ops.call ((spec_jTexts d I xs _ hS hl)) rfl dc call93 rfl ?_
  rintro y J1 l1 ⟨vl, rfl, hSl⟩
  refine Ops.callP (N := []) (object_put (d + 1) J1 b name _ (lsJ xs) kids vk M (hG.mono l1) ⟨vl, rfl, hSl⟩ hkl) (.refl _) rfl dc call43 rfl ?_
  rintro y J2 N2 l2 ⟨vk2, M2, rfl, hG2⟩
  refine Ops.nil ?_
  skip
  refine Run.end0 (by rw [hCf]; exact func50) results50 (hR _ _ _ ?_)
  exact ⟨vk2, M2, rfl, by rw [opL, if_neg h0]; exact hG2⟩
end Go.V
namespace Go.V
open Go.Proofs.Tryz
open Go.RowKit
set_option maxRecDepth 10000
attribute [local irreducible] Run Ops QD
set_option maxHeartbeats 2000000 in
theorem object_pairs (d : Nat) (I : Imm) (b : Nat) (name : Bs) (xs : List K2) (v : Value) (hS : Sl tK2 I v xs) (hl : xs.length ≤ 400000) (kids : List Js) (vk : Value) (M : Own) (hG : Gr (tJs (d + 2)) I 39 vk kids M) (hkl : kids.length ≤ 1000000) :
  Spec prog 58 [.pointer (some ⟨b, 0, none⟩), str name, v] I ((b, obj vk) :: M) fun _ J N => ∃ vk' M', N = (b, obj vk') :: M' ∧ Gr (tJs (d + 2)) J 39 vk' (kids ++ opP name xs) M' := by
 obtain ⟨A0, c0, rfl⟩ := hS.isSl
 refine Spec.enter 36 [(0, _), (1, _), (2, _)] func58 rfl ntmps58 (by simp) rfl ?_
 intro C hCf hR hCI
 refine Run.seq ?_
 by_cases h0 : xs = []
 ·subst h0
  refine Run.regionO (D := [some 9, some 10, some 11]) [true, true, true] rfl rfl rfl (fun Z hZ => ?_)
  iterate 2 refine q1 dc rfl rfl ?_
  refine QD.e (Ev.gtr rfl rfl) dc rfl ?_
  refine QD.nil (hZ _ ?_)
  clear hZ Z
  repeat (first | refine Run.skip ?_ | refine Run.cond_f rfl ?_)
  refine Run.end0 (by rw [hCf]; exact func58) results58 (hR _ _ _ ?_)
  exact ⟨vk, M, rfl, by simpa [opP] using hG⟩
 ·have hp := List.length_pos_iff.2 h0
  refine Run.regionO (D := [some 9, some 10, some 11]) [true, true, true] rfl rfl rfl (fun Z hZ => ?_)
  iterate 2 refine q1 dc rfl rfl ?_
  refine qt (Ev.gtr rfl rfl) (by omega) dc rfl ?_
  refine QD.nil (hZ _ ?_)
  clear hZ Z
  repeat (first | refine Run.seq ?_ | refine Run.cond_t rfl ?_)
  refine Run.region ?_
  refine Ops.buildL bd39 rfl dc rfl rfl ?_
  refine Ops.buildL bd114 rfl dc rfl rfl ?_
  refine Ops.box rfl dc rfl rfl (fun b6 => ?_)
  refine Ops.pure T rfl dc rfl ?_
  refine Ops.nil ?_
  repeat refine Run.seq ?_
  refine Run.regionO (D := [some 15, some 16, some 17]) [true, true, true] rfl rfl rfl (fun Z hZ => ?_)
  iterate 3 refine q1 dc rfl rfl ?_
  refine QD.nil (hZ _ ?_)
  clear hZ Z
  refine Run.block ?_
  refine Run.keep [0, 1, 6, 15, 16, 17] [_, _, _, _, _, _] rfl ?_
  refine Run.rounds (fun m env L J => ∃ (i : Nat) (vi : Value) (Mi : Own), m = xs.length - i ∧ i ≤ xs.length ∧ Gr (tJs (d + 1)) J 39 vi (prJs (xs.take i)) Mi ∧
   env = [(0, .pointer (some ⟨b, 0, none⟩)), (1, str name), (6, .pointer (some ⟨b6, 0, none⟩)), (15, .slice A0 xs.length c0), (16, .int .i64 (xs.length : Int)), (17, .int .i64 (i : Int))] ∧
   L = (b6, obj vi) :: (Mi ++ (b, obj vk) :: M) ∧ Le I J) xs.length ⟨0, _, [], by omega, by omega, Gr.nil _ _ _, rfl, rfl, Le.refl _⟩ ?_
  rintro m env L J ⟨i, vi, Mi, rfl, hi, hGi, rfl, rfl, hle⟩ ih
  have hpl : (prJs (xs.take i)).length ≤ 1000000 := by
   have : ∀ l : List K2, (prJs l).length = 2 * l.length := by
    intro l
    unfold prJs
    induction l with
    | nil => rfl
    | cons x l ih => rw [List.flatMap_cons, List.length_append, ih]; simp; omega
   rw [this, List.length_take]; omega
  by_cases hlt : i < xs.length
  ·skip
   refine Run.seq ?_
   refine Run.regionO (D := [some 18]) [true] rfl rfl rfl (fun Z hZ => ?_)
   refine qt (Ev.lss rfl rfl) (by omega) dc rfl ?_
   refine QD.nil (hZ _ ?_)
   clear hZ Z
   repeat (first | refine Run.seq ?_ | refine Run.skip ?_ | refine Run.block ?_ | refine Run.cond_t rfl ?_)
   refine Run.region ?_
   refine Ops.indexSl (j := (i : Int)) (hS.mono hle) rfl dc rfl rfl (T.undOk rfl) (T.sizeOk rfl) (by omega) (by omega) fun bb off q cs hq hr hA => ?_
   obtain rfl : cs = [str q.1, str q.2] := hr
   rw [Int.toNat_natCast] at hq
   refine Ops.loadIN rfl dc rfl hA (T.aggOk rfl) (T.sizeOk rfl) rfl ?_
   refine Ops.alloc rfl dc (T.zeroOk rfl) rfl (fun b8 => ?_)
   refine Ops.store 0 rfl rfl rfl rfl rfl (T.sizeOk rfl) rfl (Nat.le_of_ble_eq_true rfl) rfl rfl ?_
   refine Ops.nil ?_
   skip
   refine Run.regionT (D := [some 21, some 22, some 23, some 24, some 25, some 26, some 27]) (fun _ => True) [true, true, true, true, true, true] (bl 7 63) 1 (by kernel_rfl) (by kernel_rfl) (by kernel_rfl) rfl (fun Z hZ => ?_)
   iterate 2 refine q1 dc rfl rfl ?_
   refine QD.yv dc rfl (Yv.load 0 T rfl rfl rfl rfl) ?_
   refine q1 dc rfl rfl ?_
   refine QD.yv dc rfl (Yv.load 0 T rfl rfl rfl rfl) ?_
   refine QD.call (spec_jText J q.2) dc rfl call44 rfl ?_
   refine QD.nil (hZ _ ?_)
   clear hZ Z
   refine RAny.on 6 (bl 7 127) rfl (by kernel_rfl) rfl dc (Eff.callM (M := (b6, obj vi) :: Mi) (N := (b8, _) :: (b, obj vk) :: M) (object_put d J b6 q.1 _ (txJ q.2) (prJs (xs.take i)) vi Mi hGi (txJ_rel d J _) hpl) (show List.Perm ((b8, _) :: (b6, obj vi) :: (Mi ++ (b, obj vk) :: M)) ((b6, obj vi) :: (Mi ++ (b8, _) :: (b, obj vk) :: M)) from (List.Perm.swap _ _ _).trans (List.Perm.cons _ List.perm_middle.symm)) call43 rfl fun y J' M' l' hw => ⟨fun _ _ => trivial, ?_⟩)
   obtain ⟨vi', Mi', rfl, hGi'⟩ := hw
   refine RAny.done _ (by kernel_rfl) ?_
   refine Run.dropL (L' := (b6, obj vi') :: (Mi' ++ (b, obj vk) :: M)) (List.Sublist.cons_cons _ (List.Sublist.append_left (List.sublist_cons_self _ _) Mi')) ?_
   refine Run.inBlock ?_
   refine Run.regionO (D := [some 28, some 17]) [true, true] rfl rfl rfl (fun Z hZ => ?_)
   refine QD.e (Ev.addK (r := ((i + 1 : Nat) : Int)) rfl rfl (by rw [wI (by omega) (by omega)]; omega)) dc rfl ?_
   refine q1 dc rfl rfl ?_
   refine QD.nil (hZ _ ?_)
   clear hZ Z
   skip
   refine Run.keep [0, 1, 6, 15, 16, 17] [_, _, _, _, _, _] rfl ?_
   refine ih (xs.length - (i + 1)) _ _ _ (by omega) ⟨i + 1, vi', Mi', rfl, by omega, ?_, rfl, rfl, hle.trans l'⟩
   obtain ⟨hi', rfl⟩ := List.getElem?_eq_some_iff.1 hq
   rw [List.take_succ_eq_append_getElem hi', prJs, List.flatMap_append, List.flatMap_singleton]
   exact hGi'
  ·obtain rfl : i = xs.length := by omega
   rw [List.take_length] at hGi
   refine Run.seq ?_
   refine Run.regionO (D := [some 18]) [true] rfl rfl rfl (fun Z hZ => ?_)
   refine qf (Ev.lss rfl rfl) (by omega) dc rfl ?_
   refine QD.nil (hZ _ ?_)
   clear hZ Z
   repeat (first | refine Run.seq ?_ | refine Run.exit rfl ?_ | refine Run.cond_f rfl ?_)
   refine Run.keepGr hGi (N := (b6, obj vi) :: (b, obj vk) :: M) (List.perm_middle (l₁ := Mi) (a := (b6, obj vi)) (l₂ := (b, obj vk) :: M)).symm fun J5 l5 hSl => ?_
   obtain ⟨A', c', rfl⟩ := hSl.isSl
   have hG5 := hG.mono (hle.trans l5)
   refine Run.regionP (D := [some 29, some 30, some 31, some 32, some 33, some 34, some 35]) [true, true, true, true, true, true] 6 rfl rfl rfl (by simp only [List.drop_succ_cons, List.drop_zero]; rfl) (fun Z hZ => ?_)
   iterate 5 refine q1 dc rfl rfl ?_
   refine QD.yv dc rfl (Yv.loadN 0 T rfl rfl rfl rfl rfl rfl) ?_
   refine QD.nil (hZ _ ?_)
   clear hZ Z
   refine Ops.callP (N := [_]) (object_put (d + 1) J5 b name _ (paJ xs) kids vk M hG5 ⟨_, rfl, hSl⟩ hkl) (.refl _) rfl dc call43 rfl ?_
   rintro y J6 N6 l6 ⟨vk6, M6, rfl, hG6⟩
   refine Ops.nil ?_
   skip
   refine Run.dropL (List.sublist_cons_self _ _) ?_
   refine Run.end0 (by rw [hCf]; exact func58) results58 (hR _ _ _ ?_)
   exact ⟨vk6, M6, rfl, by rw [opP, if_neg h0]; exact hG6⟩
def plK (x : PfL) : List Js := [] ++ [txJ [97, 114, 99, 104, 105, 116, 101, 99, 116, 117, 114, 101], txJ x.1.arch] ++ [txJ [111, 115], txJ x.1.os] ++ opJ [111, 115, 46, 118, 101, 114, 115, 105, 111, 110] x.1.ver ++ opL [111, 115, 46, 102, 101, 97, 116, 117, 114, 101, 115] x.2.1 ++ opJ [118, 97, 114, 105, 97, 110, 116] x.1.var ++ opL [102, 101, 97, 116, 117, 114, 101, 115] x.2.2
def plJ (x : PfL) : Js := .mk 111 [] (plK x)
set_option maxHeartbeats 4000000 in
theorem spec_platformJson (d : Nat) (I : Imm) (x : PfL) (A : Option Addr) (a : Nat) (A' : Option Addr) (a' : Nat) (hf : Sl tStr I (.slice A x.2.1.length a) x.2.1) (hg : Sl tStr I (.slice A' x.2.2.length a') x.2.2) (hl1 : x.2.1.length ≤ 1000000) (hl2 : x.2.2.length ≤ 1000000) :
  Pure prog 97 [.agg (x.1.cs (.slice A x.2.1.length a) (.slice A' x.2.2.length a')).toArray] I fun w J => ∃ vk, w = .agg [.int .u8 111, str [], vk].toArray ∧ Sl (tJs (d + 2)) J vk (plK x) := by
 refine Spec.enter 37 [(0, _)] func97 rfl ntmps97 (by simp) rfl ?_
 intro C hCf hR hCI
 refine Run.seq ?_
 refine Run.region ?_
 refine Ops.box rfl dc rfl rfl (fun b1 => ?_)
 refine Ops.alloc rfl dc (T.zeroOk rfl) rfl (fun b2 => ?_)
 refine Ops.nil ?_
 refine Run.seq ?_
 refine Run.region ?_
 refine Ops.buildL bd39 rfl dc rfl rfl ?_
 refine Ops.buildL bd114 rfl dc rfl rfl ?_
 refine Ops.box rfl dc rfl rfl (fun b3 => ?_)
 refine Ops.pure T rfl dc rfl ?_
 refine Ops.nil ?_
 refine Run.perm (L' := [_, _] ++ [(b3, _)]) ((List.Perm.swap _ _ _).trans (List.Perm.cons _ (List.Perm.swap _ _ _))) ?_
 refine Run.seq ?_
 have hG0 := Gr.nil (tJs (d + 1 + 1)) I 39
 have le0 := Le.refl I
 have hn0 : ([] : List Js).length ≤ 0 := Nat.le_refl _
 refine Run.regionP (D := [some 7, some 8, some 9, some 10, some 11]) [true, true, true] 3 rfl rfl rfl (by simp only [List.drop_succ_cons, List.drop_zero]; rfl) (fun Z hZ => ?_)
 iterate 2 refine q1 dc rfl rfl ?_
 refine QD.yv dc rfl (Yv.load 1 T rfl rfl rfl rfl) ?_
 refine QD.nil (hZ _ ?_)
 clear hZ Z
 refine Ops.call ((spec_jText I x.1.arch)) rfl dc call44 rfl ?_
 rintro y1 K1 k1 rfl
 refine Ops.callP (N := [_, _]) (object_put (d + 1) _ b3 [97, 114, 99, 104, 105, 116, 101, 99, 116, 117, 114, 101] _ (txJ x.1.arch) [] (.slice none 0 0) [] (hG0.mono k1) (txJ_rel _ _ _) (by omega)) (.refl _) rfl dc call43 rfl ?_
 rintro y J1 N1 j1 ⟨vk1, M1, rfl, hG1⟩
 refine Ops.nil ?_
 refine Run.seq ?_
 have le1 := le0.trans (k1.trans j1)
 obtain ⟨ks1, hks1⟩ : ∃ ks : List Js, ks = [] ++ ([txJ [97, 114, 99, 104, 105, 116, 101, 99, 116, 117, 114, 101], txJ x.1.arch]) := ⟨_, rfl⟩
 have hG1 : Gr (tJs (d + 1 + 1)) J1 39 vk1 ks1 M1 := by rw [hks1]; exact hG1
 have hn1 : ks1.length ≤ 2 := by rw [hks1, List.length_append]; have h2 : ([txJ [97, 114, 99, 104, 105, 116, 101, 99, 116, 117, 114, 101], txJ x.1.arch] : List Js).length ≤ 2 := show _ ≤ 2 from Nat.le_refl 2; omega
 refine Run.regionP (D := [some 12, some 13, some 14, some 15, some 16]) [true, true, true] 3 rfl rfl rfl (by simp only [List.drop_succ_cons, List.drop_zero]; rfl) (fun Z hZ => ?_)
 iterate 2 refine q1 dc rfl rfl ?_
 refine QD.yv dc rfl (Yv.load 1 T rfl rfl rfl rfl) ?_
 refine QD.nil (hZ _ ?_)
 clear hZ Z
 refine Ops.call ((spec_jText J1 x.1.os)) rfl dc call44 rfl ?_
 rintro y2 K2 k2 rfl
 refine Ops.callP (N := [_, _]) (object_put (d + 1) _ b3 [111, 115] _ (txJ x.1.os) ks1 vk1 M1 (hG1.mono k2) (txJ_rel _ _ _) (by omega)) (.refl _) rfl dc call43 rfl ?_
 rintro y J2 N2 j2 ⟨vk2, M2, rfl, hG2⟩
 refine Ops.nil ?_
 refine Run.seq ?_
 have le2 := le1.trans (k2.trans j2)
 obtain ⟨ks2, hks2⟩ : ∃ ks : List Js, ks = ks1 ++ ([txJ [111, 115], txJ x.1.os]) := ⟨_, rfl⟩
 have hG2 : Gr (tJs (d + 1 + 1)) J2 39 vk2 ks2 M2 := by rw [hks2]; exact hG2
 have hn2 : ks2.length ≤ 4 := by rw [hks2, List.length_append]; have h2 : ([txJ [111, 115], txJ x.1.os] : List Js).length ≤ 2 := show _ ≤ 2 from Nat.le_refl 2; omega
 refine Run.regionP (D := [some 17, some 18, some 19, some 20]) [true, true, true] 3 rfl rfl rfl (by simp only [List.drop_succ_cons, List.drop_zero]; rfl) (fun Z hZ => ?_)
 iterate 2 refine q1 dc rfl rfl ?_
 refine QD.yv dc rfl (Yv.load 1 T rfl rfl rfl rfl) ?_
 refine QD.nil (hZ _ ?_)
 clear hZ Z
 refine Ops.callP (N := [_, _]) (object_text (d + 1) J2 b3 [111, 115, 46, 118, 101, 114, 115, 105, 111, 110] x.1.ver ks2 vk2 M2 hG2 (by omega)) (.refl _) rfl dc call45 rfl ?_
 rintro y J3 N3 j3 ⟨vk3, M3, rfl, hG3⟩
 refine Ops.nil ?_
 refine Run.seq ?_
 have le3 := le2.trans j3
 obtain ⟨ks3, hks3⟩ : ∃ ks : List Js, ks = ks2 ++ (opJ [111, 115, 46, 118, 101, 114, 115, 105, 111, 110] x.1.ver) := ⟨_, rfl⟩
 have hG3 : Gr (tJs (d + 1 + 1)) J3 39 vk3 ks3 M3 := by rw [hks3]; exact hG3
 have hn3 : ks3.length ≤ 6 := by rw [hks3, List.length_append]; have h2 : (opJ [111, 115, 46, 118, 101, 114, 115, 105, 111, 110] x.1.ver : List Js).length ≤ 2 := opJ_len _ _; omega
 refine Run.regionP (D := [some 21, some 22, some 23, some 24]) [true, true, true] 3 rfl rfl rfl (by simp only [List.drop_succ_cons, List.drop_zero]; rfl) (fun Z hZ => ?_)
 iterate 2 refine q1 dc rfl rfl ?_
 refine QD.yv dc rfl (Yv.load 1 T rfl rfl rfl rfl) ?_
 refine QD.nil (hZ _ ?_)
 clear hZ Z
 refine Ops.callP (N := [_, _]) (object_texts (d) J3 b3 [111, 115, 46, 102, 101, 97, 116, 117, 114, 101, 115] x.2.1 _ (hf.mono le3) hl1 ks3 vk3 M3 hG3 (by omega)) (.refl _) rfl dc call50 rfl ?_
 rintro y J4 N4 j4 ⟨vk4, M4, rfl, hG4⟩
 refine Ops.nil ?_
 refine Run.seq ?_
 have le4 := le3.trans j4
 obtain ⟨ks4, hks4⟩ : ∃ ks : List Js, ks = ks3 ++ (opL [111, 115, 46, 102, 101, 97, 116, 117, 114, 101, 115] x.2.1) := ⟨_, rfl⟩
 have hG4 : Gr (tJs (d + 1 + 1)) J4 39 vk4 ks4 M4 := by rw [hks4]; exact hG4
 have hn4 : ks4.length ≤ 8 := by rw [hks4, List.length_append]; have h2 : (opL [111, 115, 46, 102, 101, 97, 116, 117, 114, 101, 115] x.2.1 : List Js).length ≤ 2 := opL_len _ _; omega
 refine Run.regionP (D := [some 25, some 26, some 27, some 28]) [true, true, true] 3 rfl rfl rfl (by simp only [List.drop_succ_cons, List.drop_zero]; rfl) (fun Z hZ => ?_)
 iterate 2 refine q1 dc rfl rfl ?_
 refine QD.yv dc rfl (Yv.load 1 T rfl rfl rfl rfl) ?_
 refine QD.nil (hZ _ ?_)
 clear hZ Z
 refine Ops.callP (N := [_, _]) (object_text (d + 1) J4 b3 [118, 97, 114, 105, 97, 110, 116] x.1.var ks4 vk4 M4 hG4 (by omega)) (.refl _) rfl dc call45 rfl ?_
 rintro y J5 N5 j5 ⟨vk5, M5, rfl, hG5⟩
 refine Ops.nil ?_
 refine Run.seq ?_
 have le5 := le4.trans j5
 obtain ⟨ks5, hks5⟩ : ∃ ks : List Js, ks = ks4 ++ (opJ [118, 97, 114, 105, 97, 110, 116] x.1.var) := ⟨_, rfl⟩
 have hG5 : Gr (tJs (d + 1 + 1)) J5 39 vk5 ks5 M5 := by rw [hks5]; exact hG5
 have hn5 : ks5.length ≤ 10 := by rw [hks5, List.length_append]; have h2 : (opJ [118, 97, 114, 105, 97, 110, 116] x.1.var : List Js).length ≤ 2 := opJ_len _ _; omega
 refine Run.regionP (D := [some 29, some 30, some 31, some 32]) [true, true, true] 3 rfl rfl rfl (by simp only [List.drop_succ_cons, List.drop_zero]; rfl) (fun Z hZ => ?_)
 iterate 2 refine q1 dc rfl rfl ?_
 refine QD.yv dc rfl (Yv.load 1 T rfl rfl rfl rfl) ?_
 refine QD.nil (hZ _ ?_)
 clear hZ Z
 refine Ops.callP (N := [_, _]) (object_texts (d) J5 b3 [102, 101, 97, 116, 117, 114, 101, 115] x.2.2 _ (hg.mono le5) hl2 ks5 vk5 M5 hG5 (by omega)) (.refl _) rfl dc call50 rfl ?_
 rintro y J6 N6 j6 ⟨vk6, M6, rfl, hG6⟩
 refine Ops.nil ?_
 refine Run.seq ?_
 have le6 := le5.trans j6
 obtain ⟨ks6, hks6⟩ : ∃ ks : List Js, ks = ks5 ++ (opL [102, 101, 97, 116, 117, 114, 101, 115] x.2.2) := ⟨_, rfl⟩
 have hG6 : Gr (tJs (d + 1 + 1)) J6 39 vk6 ks6 M6 := by rw [hks6]; exact hG6
 have hn6 : ks6.length ≤ 12 := by rw [hks6, List.length_append]; have h2 : (opL [102, 101, 97, 116, 117, 114, 101, 115] x.2.2 : List Js).length ≤ 2 := opL_len _ _; omega
 refine Run.keepGr hG6 (N := [_, _, _]) (List.perm_append_comm (l₁ := [_, _, _]) (l₂ := M6)) fun JF lF hSl => ?_
 obtain ⟨AF, cF, rfl⟩ := hSl.isSl
 refine Run.region ?_
 iterate 3 refine Ops.pure T rfl dc rfl ?_
 refine Ops.loadN 2 rfl dc rfl rfl (T.aggOk rfl) (T.sizeOk rfl) rfl rfl ?_
 refine Ops.store 0 rfl rfl rfl rfl rfl (T.sizeOk rfl) rfl (Nat.le_of_ble_eq_true rfl) rfl rfl ?_
 refine Ops.nil ?_
 skip
 refine Run.retC T 0 (by rw [hCf]; exact func97) results97 rfl rfl rfl rfl rfl rfl (hR _ _ _ ?_)
 refine ⟨rfl, _, rfl, ?_⟩
 have e : ks6 = plK x := by simp only [hks6, hks5, hks4, hks3, hks2, hks1]; rfl
 rw [e] at hSl ⊢
 exact hSl
end Go.V
