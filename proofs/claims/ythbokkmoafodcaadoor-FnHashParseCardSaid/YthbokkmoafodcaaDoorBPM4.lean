import Derived.Test.YthbokkmoafodcaaDoorBPM3
import Derived.Laws.BytesString
/-
  More on numbers; bytes read as a text; memory that is only lent, at a call.
-/
namespace Go.V
open Go.RowKit
set_option linter.unusedVariables false
set_option linter.unusedSimpArgs false
section
variable {P : Program} {n : Nat} {C : Cx} {k : List Item} {env : Env} {L : Own} {I : Imm} {ops : Array Oper} {i : Nat} {l : List Oper} {S : World → Prop}
variable {ty : TypeId} {ps : String} {af : Array Edge} {g : Option (Nat × Bool)} {d : Nat}
variable {x y : Operand} {t t' : TypeId} {kd kd' : IntKind}
theorem foldl_push (xs : List UInt8) : ∀ s : ByteArray, (xs.map fun b => (b.toNat : Int)).foldl (fun r (n : Int) => r.push (UInt8.ofNat n.toNat)) s = ⟨s.data ++ xs.toArray⟩ := by
  induction xs with
  | nil => intro s; simp
  | cons x r ih =>
    intro s
    simp only [List.map_cons, List.foldl_cons]
    rw [ih]
    apply ByteArray.ext
    simp [ByteArray.push]
theorem run_bytesStr {src dst e : TypeId} {b off c : Nat} {xs : List UInt8} {W : World} (T : Tab P) (hs : T.und src = some (.slice e)) (ht : T.und dst = some .string) (he : T.und e = some (.int .u8))
    (hc : ∀ j u, (wb xs)[j]? = some u → W.cell? ⟨b, off + j, none⟩ = some u) : (convert src dst (.slice (some ⟨b, off, none⟩) xs.length c)).run P W = .ok (str xs) W := by
  have hl := run_loadCells_list (P := P) W ⟨b, off, none⟩ (wb xs) (fun j u hj => by rw [add_off]; exact hc j u hj)
  have e1 : (wb xs).length = xs.length := by simp
  rw [e1] at hl
  rw [run_convert_bytes_string W src dst e _ _ _ (und_of_run (T.undOk hs W)) (und_of_run (T.undOk he W)) (und_of_run (T.undOk ht W))]
  rw [run_bytesToString W ⟨b, off, none⟩ xs.length c (xs.map fun b => (b.toNat : Int)) (by rw [hl, List.map_map]; rfl), foldl_push]
  simp [str]
theorem run_bytesNil {src dst e : TypeId} {c : Nat} {W : World} (T : Tab P) (hs : T.und src = some (.slice e)) (ht : T.und dst = some .string) (he : T.und e = some (.int .u8)) : (convert src dst (.slice none 0 c)).run P W = .ok (str []) W := by
  rw [run_convert_bytes_string W src dst e _ _ _ (und_of_run (T.undOk hs W)) (und_of_run (T.undOk he W)) (und_of_run (T.undOk ht W))]
  rfl
theorem Yv.bytesBuf {src dst e e' : TypeId} {v : Value} {xs : List UInt8} {J : Imm} {M N : Own} (T : Tab P) (hG : Buf e' v xs N) (hm : ∀ x, x ∈ N → x ∈ M) (hs : T.und src = some (.slice e)) (ht : T.und dst = some .string) (he : T.und e = some (.int .u8)) (hx : opnd env x = some v) :
    Yv P n env (Holds J M) (.convert src dst x) (str xs) :=
  fun a W hen hS _ _ _ _ _ => by
    rcases hG with ⟨rfl, rfl, _⟩ | ⟨b, pre, post, cap, rfl, rfl, hc, _⟩
    · simp only [execOp, eval_opnd hen hx, Sem.run_bind, run_bytesNil T hs ht he, Result.andThen_ok]; rfl
    · have hW := hS.2 b _ (hm _ (List.mem_singleton.2 rfl))
      have := run_bytesStr (P := P) (c := cap) (b := b) (off := pre.length) (xs := xs) (W := W) T hs ht he (fun j u hj => by
        have hjl : j < xs.length := by simpa using (List.getElem?_eq_some_iff.1 hj).1
        rw [cell_blk hW, List.getElem?_toArray, List.append_assoc, List.getElem?_append_right (by omega), Nat.add_sub_cancel_left, List.getElem?_append_left (by simpa using hjl)]
        exact hj)
      simp only [execOp, eval_opnd hen hx, Sem.run_bind, this, Result.andThen_ok]; rfl
theorem Yv.bytesSl {src dst e : TypeId} {v : Value} {xs : List UInt8} {J : Imm} {M : Own} (T : Tab P) (hG : Sl tU8 J v xs) (hs : T.und src = some (.slice e)) (ht : T.und dst = some .string) (he : T.und e = some (.int .u8)) (hx : opnd env x = some v) :
    Yv P n env (Holds J M) (.convert src dst x) (str xs) :=
  fun a W hen hS _ _ _ _ _ => by
    obtain ⟨A, c, rfl, hc, hrow⟩ := hG
    have key : ∀ b off, (∀ j u, (wb xs)[j]? = some u → W.cell? ⟨b, off + j, none⟩ = some u) → A = some ⟨b, off, none⟩ → (execOp a.eval ⟨‹Option Tmp›, .convert src dst x, ‹TypeId›, ‹String›, ‹Array Edge›, ‹Option (Nat × Bool)›⟩).run P W = .ok (.value (str xs)) W := by
      rintro b off hcell rfl
      have := run_bytesStr (P := P) (c := c) (b := b) (off := off) (xs := xs) (W := W) T hs ht he hcell
      simp only [execOp, eval_opnd hen hx, Sem.run_bind, this, Result.andThen_ok]; rfl
    rcases hrow with rfl | ⟨b, off, rfl, hrow⟩
    · cases A with
      | none =>
        have := run_bytesNil (P := P) (c := c) (W := W) T hs ht he
        simp only [execOp, eval_opnd hen hx, Sem.run_bind, List.length_nil, this, Result.andThen_ok]; rfl
      | some a0 =>
        have hl := run_loadCells_list (P := P) W a0 [] (fun j u hj => by simp at hj)
        have h3 : (convert src dst (.slice (some a0) 0 c)).run P W = .ok (str []) W := by
          rw [run_convert_bytes_string W src dst e _ _ _ (und_of_run (T.undOk hs W)) (und_of_run (T.undOk he W)) (und_of_run (T.undOk ht W))]
          exact run_bytesToString W a0 0 c [] hl
        simp only [execOp, eval_opnd hen hx, Sem.run_bind, List.length_nil, h3, Result.andThen_ok]; rfl
    · refine key b off (fun j u hj => ?_) rfl
      have hjl : j < xs.length := by simpa using (List.getElem?_eq_some_iff.1 hj).1
      obtain ⟨cs, hr, hA⟩ := hrow j xs[j] (List.getElem?_eq_getElem hjl)
      obtain rfl : cs = _ := hr
      have h4 := hS.cell hA 0 _ rfl
      rw [List.getElem?_map, List.getElem?_eq_getElem hjl] at hj
      simp only [Option.map_some, Option.some.injEq] at hj
      subst hj
      simpa [tU8] using h4
end
end Go.V
/-
  Methods of interfaces in statements that draw their order; copies into a block that is written out.
-/
namespace Go.V
open Go.RowKit
set_option linter.unusedVariables false
set_option linter.unusedSimpArgs false
section
variable {P : Program} {n : Nat} {C : Cx} {k : List Item} {env : Env} {L : Own} {I : Imm} {ops : Array Oper} {i : Nat} {l : List Oper} {S : World → Prop}
variable {ty : TypeId} {ps : String} {af : Array Edge} {g : Option (Nat × Bool)} {d : Nat}
variable {x y : Operand} {t t' : TypeId} {kd kd' : IntKind}
theorem Ev.slice0H {ts e : TypeId} {A : Option Addr} {m c q : Nat} {lo hi : Operand} {size : Nat} {z : Int} (T : Tab P) (hu : T.und ts = some (.slice e)) (hz : T.size e = some size) (hx : opnd env x = some (.slice A m c)) (hlo : opnd env lo = some (.int kd z)) (hz0 : z = 0) (hhi : opnd env hi = some (.int kd' (q : Int))) (h1 : q ≤ c) :
    Ev P n env (.slice ts x (some lo) (some hi) none) (.slice A q c) :=
  fun a W he _ _ _ _ _ => by
    subst hz0
    have hb := run_sliceBounds (P := P) (hi := some (a.eval hi)) (lo := some (a.eval lo)) (len := m) (cap := c) (l := 0) (h := q) (kd := kd') (kd' := kd) (.inr (by simp [eval_opnd he hhi])) (.inr (by simp [eval_opnd he hlo])) h1 (Nat.zero_le _) W
    have e1 : (A.map fun x => x.add 0) = A := by
      cases A with
      | none => rfl
      | some a0 => obtain ⟨b, off, sp⟩ := a0; simp [Addr.add]
    simp [execOp, Instr.sliceAt, Instr.slice, eval_opnd he hx, T.undOk hu, hb, T.sizeOk hz, e1]
variable {K : Value → Own → Imm → Prop}
theorem Eff.invokeM {f : FuncId} {m : String} {xs : List Operand} {ats : Array TypeId} {u rv : Value} {vs : List Value} {M N : Own} {R : Value → Imm → Own → Prop} (hs : Spec P f (rv :: vs) I M R) (hL : L.Perm (M ++ N)) (hc : ∀ args w, (callFunc f args).run P w = .ok (.enter f args) w)
    (hf : opnd env x = some (.iface t u)) (hm : ∀ w, (method (P.types.size + Made.depth) t u m).run P w = .ok (f, rv) w) (hx : opnds env xs = some vs) (next : ∀ v J M', Le I J → R v J M' → K v (M' ++ N) J) :
    Eff P n C env L I ⟨some d, .call ⟨.invoke x m, xs.toArray, ats⟩, ty, ps, af, g⟩ K :=
  Eff.callW (fun a W he => run_invoke hc he hf hm hx) hL hs next
theorem QD.invoke {D : List (Option Nat)} {Z : Env → Prop} {m : List Bool} {r : List Oper} {f : FuncId} {nm : String} {xs : List Operand} {ats : Array TypeId} {u rv v : Value} {vs : List Value} (hs : Pure P f (rv :: vs) I fun w J => w = v) (hd : d < n) (hg : wantD env D g = some true) (hc : ∀ args w, (callFunc f args).run P w = .ok (.enter f args) w)
    (hf : opnd env x = some (.iface t u)) (hm : ∀ w, (method (P.types.size + Made.depth) t u nm).run P w = .ok (f, rv) w) (hx : opnds env xs = some vs)
    (next : QD P n C D L I Z m r ((d, v) :: env)) : QD P n C D L I Z (true :: m) (⟨some d, .call ⟨.invoke x nm, xs.toArray, ats⟩, ty, ps, af, g⟩ :: r) env :=
  QD.callW hd hg (fun a W he => run_invoke hc he hf hm hx) hs.keeps next
end
end Go.V
/-
  A hash's text parted and checked, as package v1 does.
-/
namespace Go.V
open Go.RowKit
set_option linter.unusedVariables false
set_option linter.unusedSimpArgs false
set_option maxRecDepth 10000
attribute [local irreducible] Run Ops QD
abbrev hashV (a h : Tx) : Value := .agg #[str a, str h]
def cutT (c : UInt8) (s : Tx) : Tx × Tx × Bool := match ix c s with
  | some k => (s.take k, s.drop (k + 1), true)
  | none => (s, [], false)
theorem v1_zzCut (I : Imm) (s : Tx) (c : UInt8) (hs : s.length ≤ 4620000000000000000) : Pure Proofs.Tryd.prog 38 [str s, str [c]] I fun w J => w = .tuple #[str (cutT c s).1, str (cutT c s).2.1, .bool (cutT c s).2.2] := by
  refine Spec.enter 23 [(0, _), (1, _)] Proofs.Tryd.func38 rfl Proofs.Tryd.ntmps38 (by simp) rfl ?_
  intro C hCf hR hCI
  repeat (first | refine Run.seq ?_ | refine Run.region ?_ | refine Ops.nil ?_ | refine Ops.pure T rfl (by decide) rfl ?_)
  refine Ops.call ((v1_zzIndex s c I hs)) rfl (by decide) Proofs.Tryd.call45 rfl ?_
  rintro _ J1 l1 rfl
  cases hk : ix c s with
  | none =>
    rw [ixI_none hk]
    repeat (first | refine Run.seq ?_ | refine Run.region ?_ | refine Ops.nil ?_ | refine Run.skip ?_ | refine Run.cond_f rfl ?_ | refine Ops.geq rfl (by decide) rfl rfl ?_ | refine Ops.pure T rfl (by decide) rfl ?_)
    refine Run.fin (Run.ret3 (by rw [hCf]; exact Proofs.Tryd.func38) Proofs.Tryd.results38 rfl rfl rfl (hR _ _ _ ?_))
    exact ⟨rfl, by simp [cutT, hk]; rfl⟩
  | some k =>
    rw [ixI_eq hk]
    have hlt := ix_lt hk
    repeat (first | refine Run.seq ?_ | refine Run.region ?_ | refine Ops.nil ?_ | refine Run.cond_t rfl ?_ | refine Ops.geq rfl (by decide) rfl rfl ?_ | refine Ops.pure T rfl (by decide) rfl ?_)
    rw [decide_eq_true (show (0 : Int) ≤ (k : Int) by omega)]
    skip
    refine Run.regionQ (D := [some 13, some 14, some 15, some 16, some 17, some 18, some 19, some 20, some 21, some 4, some 5, some 6]) [true, true, true, true, true, true, true, true, true, true, true, true] (bl 12 4095) (by kernel_rfl) (by kernel_rfl) (by kernel_rfl) (by kernel_rfl) rfl (fun Z hZ => ?_)
    refine QD.ev T (by decide) rfl rfl ?_
    refine QD.ev T (by decide) rfl rfl ?_
    refine QD.e (Ev.cutSHi T rfl rfl rfl (by first | omega | (simp only [List.length_cons, List.length_nil] ; omega) | (simp; omega)) (by first | omega | (simp only [List.length_cons, List.length_nil] ; omega) | (simp; omega))) (by decide) rfl ?_
    refine QD.ev T (by decide) rfl rfl ?_
    refine QD.ev T (by decide) rfl rfl ?_
    refine QD.ev T (by decide) rfl rfl ?_
    refine QD.e (Ev.lenS T rfl rfl) (by decide) rfl ?_
    refine QD.e (Ev.addI rfl rfl (wI (by first | omega | (simp only [List.length_cons, List.length_nil] ; omega) | (simp; omega)) (by first | omega | (simp only [List.length_cons, List.length_nil] ; omega) | (simp; omega)))) (by decide) rfl ?_
    refine QD.e (Ev.cutSLo T rfl rfl rfl (by first | omega | (simp only [List.length_cons, List.length_nil] ; omega) | (simp; omega)) (by first | omega | (simp only [List.length_cons, List.length_nil] ; omega) | (simp; omega))) (by decide) rfl ?_
    refine QD.ev T (by decide) rfl rfl ?_
    refine QD.ev T (by decide) rfl rfl ?_
    refine QD.ev T (by decide) rfl rfl ?_
    refine QD.nil (hZ _ ?_)
    clear hZ Z
    skip
    refine Run.fin (Run.ret3 (by rw [hCf]; exact Proofs.Tryd.func38) Proofs.Tryd.results38 rfl rfl rfl (hR _ _ _ ?_))
    refine ⟨rfl, ?_⟩
    rw [show ((k : Int)).toNat = k by omega, show ((k : Int) + (([c] : List UInt8).length : Int)).toNat = k + 1 by simp]
    simp [cutT, hk]
theorem v1_zzInSet (I : Imm) (r : Nat) (cs : Tx) (hc : cs.length ≤ 4620000000000000000) : Pure Proofs.Tryd.prog 46 [.int .i32 r, str cs] I fun w J => w = .bool (inR r cs) := by
  refine Spec.enter 15 [(0, _), (1, _)] Proofs.Tryd.func46 rfl Proofs.Tryd.ntmps46 (by simp) rfl ?_
  intro C hCf hR hCI
  repeat (first | refine Run.seq ?_ | refine Run.region ?_ | refine Ops.nil ?_ | refine Ops.pure T rfl (by decide) rfl ?_)
  refine Ops.rangeStr T rfl (by decide) rfl rfl (fun b2 => ?_)
  repeat (first | refine Ops.nil ?_ | refine Run.block ?_)
  refine Run.keep [0, 8] [_, _] rfl ?_
  refine Run.rounds (fun m env L K => ∃ (q : Nat), m = cs.length - q ∧ q ≤ cs.length ∧ decide (r ∈ runesW cs q) = inR r cs ∧
      env = [(0, .int .i32 r), (8, .pointer (some ⟨b2, 0, none⟩))] ∧ L = [(b2, .stringIter (ba cs) q)] ∧ K = I) cs.length ⟨0, by omega, by omega, rfl, rfl, rfl, rfl⟩ ?_
  rintro m env L K ⟨q, rfl, hq, hin, rfl, rfl, rfl⟩ ih2
  by_cases hqt : q < cs.length
  · have hw2 := runeAt_width cs q
    obtain ⟨_, _, hpw2, _, _⟩ := runes_step hqt
    rw [runesW_lt hqt, memD] at hin
    repeat (first | refine Run.seq ?_ | refine Run.region ?_)
    refine Ops.nextStr 0 rfl (by decide) rfl rfl hqt ?_
    generalize runeAt cs q = rw at *
    obtain ⟨x, w2⟩ := rw
    simp only at hw2 hpw2 hin
    repeat (first | refine Run.seq ?_ | refine Run.region ?_ | refine Ops.nil ?_ | refine Run.skip ?_ | refine Run.block ?_ | refine Run.cond_t rfl ?_ | refine Ops.eql rfl (by decide) rfl rfl ?_ | refine Ops.pure T rfl (by decide) rfl ?_)
    cases he : decide ((r : Int) = (x : Int)) with
    | true =>
      repeat (first | refine Run.seq ?_ | refine Run.region ?_ | refine Ops.nil ?_ | refine Run.cond_t rfl ?_ | refine Ops.pure T rfl (by decide) rfl ?_)
      refine Run.fin (Run.ret1 (by rw [hCf]; exact Proofs.Tryd.func46) Proofs.Tryd.results46 rfl (hR _ _ _ ?_))
      rw [he, Bool.true_or] at hin
      exact ⟨rfl, by rw [← hin]⟩
    | false =>
      rw [he, Bool.false_or] at hin
      repeat (first | refine Run.skip ?_ | refine Run.inBlock ?_ | refine Run.cond_f rfl ?_)
      refine Run.keep [0, 8] [_, _] rfl ?_
      exact ih2 (cs.length - (q + w2)) _ _ _ (by omega) ⟨q + w2, rfl, by omega, hin, rfl, rfl, rfl⟩
  · rw [runesW_end hqt] at hin
    repeat (first | refine Run.seq ?_ | refine Run.region ?_)
    refine Ops.nextStrEnd 0 rfl (by decide) rfl rfl hqt ?_
    repeat (first | refine Run.seq ?_ | refine Run.region ?_ | refine Ops.nil ?_ | refine Run.exit rfl ?_ | refine Run.cond_f rfl ?_ | refine Ops.pure T rfl (by decide) rfl ?_)
    refine Run.fin (Run.ret1 (by rw [hCf]; exact Proofs.Tryd.func46) Proofs.Tryd.results46 rfl (hR _ _ _ ?_))
    exact ⟨rfl, by rw [← hin]; rfl⟩
/-- what is left is empty just where every rune is of the set -/
theorem v1_zzTrimLeft (I : Imm) (s cs : Tx) (hs : s.length ≤ 4620000000000000000) (hc : cs.length ≤ 4620000000000000000) : Pure Proofs.Tryd.prog 40 [str s, str cs] I fun w J => ∃ z : Tx, w = str z ∧ decide (z.length = 0) = allR s cs := by
  refine Spec.enter 20 [(0, _), (1, _)] Proofs.Tryd.func40 rfl Proofs.Tryd.ntmps40 (by simp) rfl ?_
  intro C hCf hR hCI
  repeat (first | refine Run.seq ?_ | refine Run.region ?_ | refine Ops.nil ?_ | refine Ops.pure T rfl (by decide) rfl ?_)
  refine Ops.rangeStr T rfl (by decide) rfl rfl (fun b1 => ?_)
  repeat (first | refine Ops.nil ?_ | refine Run.block ?_)
  refine Run.keep [0, 1, 8] [_, _, _] rfl ?_
  refine Run.rounds (fun m env L J => ∃ p : Nat, m = s.length - p ∧ p ≤ s.length ∧ ((runesW s p).all fun r => inR r cs) = allR s cs ∧
    env = [(0, str s), (1, str cs), (8, .pointer (some ⟨b1, 0, none⟩))] ∧ L = [(b1, .stringIter (ba s) p)] ∧ Le I J) s.length ⟨0, by omega, by omega, rfl, rfl, rfl, Le.refl _⟩ ?_
  rintro m env L J ⟨p, rfl, hp, hall, rfl, rfl, hle⟩ ih
  by_cases hlt : p < s.length
  · have hw := runeAt_width s p
    obtain ⟨_, _, hpw, _, _⟩ := runes_step hlt
    rw [runesW_lt hlt, List.all_cons] at hall
    repeat (first | refine Run.seq ?_ | refine Run.region ?_)
    refine Ops.nextStr 0 rfl (by decide) rfl rfl hlt ?_
    generalize runeAt s p = rw at *
    obtain ⟨r, w⟩ := rw
    simp only at hw hpw hall
    repeat (first | refine Run.seq ?_ | refine Run.region ?_ | refine Ops.nil ?_ | refine Run.skip ?_ | refine Run.block ?_ | refine Run.cond_t rfl ?_ | refine Ops.pure T rfl (by decide) rfl ?_)
    refine Ops.call ((v1_zzInSet J r cs hc)) rfl (by decide) Proofs.Tryd.call46 rfl ?_
    rintro _ J2 l2 rfl
    cases he : inR r cs with
    | true =>
      rw [he, Bool.true_and] at hall
      repeat (first | refine Ops.nil ?_ | refine Run.skip ?_ | refine Run.inBlock ?_ | refine Run.cond_f rfl ?_ | refine Ops.pure T rfl (by decide) rfl ?_)
      refine Run.keep [0, 1, 8] [_, _, _] rfl ?_
      exact ih (s.length - (p + w)) _ _ _ (by omega) ⟨p + w, rfl, by omega, hall, rfl, rfl, hle.trans l2⟩
    | false =>
      repeat (first | refine Run.seq ?_ | refine Run.region ?_ | refine Ops.nil ?_ | refine Run.cond_t rfl ?_ | refine Ops.pure T rfl (by decide) rfl ?_ | refine Ops.sliceStrLo rfl (by decide) (T.undOk rfl) rfl rfl (by first | omega | (simp only [List.length_cons, List.length_nil] ; omega) | (simp; omega)) (by first | omega | (simp only [List.length_cons, List.length_nil] ; omega) | (simp; omega)) ?_)
      refine Run.fin (Run.ret1 (by rw [hCf]; exact Proofs.Tryd.func40) Proofs.Tryd.results40 rfl (hR _ _ _ ?_))
      rw [he, Bool.false_and] at hall
      refine ⟨rfl, s.drop p, by rw [show ((p : Int)).toNat = p by omega], ?_⟩
      rw [← hall]; simp; omega
  · rw [runesW_end hlt] at hall
    repeat (first | refine Run.seq ?_ | refine Run.region ?_)
    refine Ops.nextStrEnd 0 rfl (by decide) rfl rfl hlt ?_
    repeat (first | refine Run.seq ?_ | refine Run.region ?_ | refine Ops.nil ?_ | refine Run.exit rfl ?_ | refine Run.cond_f rfl ?_ | refine Ops.pure T rfl (by decide) rfl ?_)
    refine Run.fin (Run.ret1 (by rw [hCf]; exact Proofs.Tryd.func40) Proofs.Tryd.results40 rfl (hR _ _ _ ?_))
    exact ⟨rfl, [], rfl, by rw [← hall]; rfl⟩
theorem errors_New (s : List UInt8) (I : Imm) : Pure Proofs.Tryd.prog 39 [str s] I fun v J => ∃ b, v = .iface 130 (.pointer (some ⟨b, 0, none⟩)) ∧ J b = some (blk [str s] 132) := by
  refine Spec.enter 7 [(0, _)] Proofs.Tryd.func39 rfl Proofs.Tryd.ntmps39 (by simp) rfl ?_
  intro C hCf hR hCI
  repeat (first | refine Run.seq ?_ | refine Run.region ?_ | refine Ops.nil ?_ | refine Ops.pure T rfl (by decide) rfl ?_)
  refine Ops.buildL bd132 rfl (by decide) rfl rfl ?_
  refine Ops.box rfl (by decide) rfl rfl (fun b => ?_)
  repeat (first | refine Ops.nil ?_ | refine Ops.pure T rfl (by decide) rfl ?_)
  refine Run.freeze fun J hle hJ => ?_
  refine Run.fin (Run.ret1 (by rw [hCf]; exact Proofs.Tryd.func39) Proofs.Tryd.results39 rfl (hR _ _ _ ?_))
  exact ⟨rfl, b, rfl, hJ⟩
theorem v1_Hasher (I : Imm) (s : Tx) (h1 : s ≠ [115, 104, 97, 50, 53, 54]) (h2 : s ≠ [115, 104, 97, 53, 49, 50]) : Pure Proofs.Tryd.prog 41 [str s] I fun w J => ∃ v x, w = .tuple #[v, .iface 130 x] := by
  refine Spec.enter 12 [(0, _)] Proofs.Tryd.func41 rfl Proofs.Tryd.ntmps41 (by simp) rfl ?_
  intro C hCf hR hCI
  repeat (first | refine Run.seq ?_ | refine Run.region ?_ | refine Ops.nil ?_ | refine Run.block ?_ | refine Ops.eqlStr rfl (by decide) rfl rfl ?_ | refine Ops.pure T rfl (by decide) rfl ?_)
  rw [decide_eq_false h1]
  repeat (first | refine Run.seq ?_ | refine Run.region ?_ | refine Ops.nil ?_ | refine Run.cond_f rfl ?_ | refine Ops.eqlStr rfl (by decide) rfl rfl ?_ | refine Ops.pure T rfl (by decide) rfl ?_)
  rw [decide_eq_false h2]
  repeat (first | refine Run.seq ?_ | refine Run.region ?_ | refine Run.cond_f rfl ?_)
  refine Ops.call ((errors_New _ I)) rfl (by decide) Proofs.Tryd.call39 rfl ?_
  rintro _ J1 l1 ⟨b, rfl, hb⟩
  repeat (first | refine Ops.nil ?_ | refine Ops.pure T rfl (by decide) rfl ?_)
  refine Run.fin (Run.ret2 (by rw [hCf]; exact Proofs.Tryd.func41) Proofs.Tryd.results41 rfl rfl (hR _ _ _ ?_))
  exact ⟨rfl, _, _, rfl⟩
end Go.V
/-
  A hash's text read into a hash, as package v1 does; the document's reading.
-/
namespace Go.V
open Go.RowKit
set_option linter.unusedVariables false
set_option linter.unusedSimpArgs false
set_option maxRecDepth 10000
attribute [local irreducible] Run Ops QD
abbrev sha256T' : Tx := [115, 104, 97, 50, 53, 54]
def pOk (s : Tx) : Bool := match ix 58 s with
  | none => false
  | some k => decide (s.take k = sha256T') && (allR (s.drop (k + 1)) hexT && decide ((s.drop (k + 1)).length = 64))
abbrev hashO (a h : Tx) : Obj := blk [str a, str h] 38
abbrev errW (w : Value) : Prop := ∃ x, w = .iface 130 x
theorem allR_hex (s : Tx) : allR s hexT = allIn hexT s := by simpa [allR, inR] using runes_all ascii_hex s.length 0 (by omega)
theorem digGood_split {s : Tx} (h : digGood s = true) : s = [115, 104, 97, 50, 53, 54, 58] ++ s.drop 7 ∧ (s.drop 7).length = 64 ∧ allIn hexT (s.drop 7) = true := by
  simp only [digGood, Bool.and_eq_true, decide_eq_true_eq, sWithin] at h
  obtain ⟨h1, h2, h3, h4, h5⟩ := h
  refine ⟨?_, by omega, h3⟩
  conv => lhs; rw [← List.take_append_drop 7 s, h2]
theorem ix_dig {s : Tx} (h : digGood s = true) : ix 58 s = some 6 := by
  rw [(digGood_split h).1]; exact ix_app (x := [115, 104, 97, 50, 53, 54]) (by decide)
theorem pOk_eq (s : Tx) : pOk s = digGood s := by
  rw [Bool.eq_iff_iff]
  constructor
  · intro h
    cases hk : ix 58 s with
    | none => rw [pOk, hk] at h; cases h
    | some k =>
      simp only [pOk, hk, Bool.and_eq_true, decide_eq_true_eq] at h
      obtain ⟨h1, h2, h3⟩ := h
      have hlt := ix_lt hk
      have hk6 : k = 6 := by have := congrArg List.length h1; simp at this; omega
      subst hk6
      have e := (ix_split hk).1
      rw [h1] at e
      have e7 : s.take 7 = [115, 104, 97, 50, 53, 54, 58] := by rw [e]; rfl
      rw [allR_hex] at h2
      have hl : s.length = 71 := by have := congrArg List.length e; simp only [List.length_append, List.length_cons, h3] at this; exact this
      simp only [digGood, Bool.and_eq_true, decide_eq_true_eq, sWithin]
      have h3' : (s.drop 7).length = 64 := h3
      exact ⟨hl, e7, h2, by omega, by omega⟩
  · intro h
    obtain ⟨e, h1, h2⟩ := digGood_split h
    have e6 : s.take 6 = [115, 104, 97, 50, 53, 54] := by rw [e]; rfl
    simp only [pOk, ix_dig h, Bool.and_eq_true, decide_eq_true_eq, allR_hex]
    exact ⟨e6, h2, h1⟩
set_option maxHeartbeats 2000000 in
theorem v1_parse (I : Imm) (s a x : Tx) (h : Nat) (hs : s.length ≤ 4620000000000000000) (h5 : ∀ k, ix 58 s = some k → allR (s.drop (k + 1)) hexT = true → s.take k ≠ [115, 104, 97, 53, 49, 50]) :
    Spec Proofs.Tryd.prog 33 [.pointer (some ⟨h, 0, none⟩), str s] I [(h, hashO a x)] fun w J M' => if pOk s then w = .nilIface ∧ M' = [(h, hashO sha256T' (s.drop 7))] else errW w ∧ M' = [(h, hashO a x)] := by
  refine Spec.enter 62 [(0, _), (1, _)] Proofs.Tryd.func33 rfl Proofs.Tryd.ntmps33 (by simp) rfl ?_
  intro C hCf hR hCI
  repeat (first | refine Run.seq ?_ | refine Run.region ?_ | refine Ops.nil ?_ | refine Ops.pure T rfl (by decide) rfl ?_)
  refine Ops.call ((v1_zzCut I s 58 hs)) rfl (by decide) Proofs.Tryd.call38 rfl ?_
  rintro _ J1 l1 rfl
  cases hk : ix 58 s with
  | none =>
    have e : cutT 58 s = (s, [], false) := by simp [cutT, hk]
    have ep : pOk s = false := by simp [pOk, hk]
    rw [e]
    repeat (first | refine Run.seq ?_ | refine Run.region ?_ | refine Ops.nil ?_ | refine Run.cond_t rfl ?_ | refine Ops.not rfl (by decide) ?_ | refine Ops.pure T rfl (by decide) rfl ?_)
    refine Ops.call ((errors_New _ _)) rfl (by decide) Proofs.Tryd.call39 rfl ?_
    rintro _ J3 l3 ⟨b, rfl, hb⟩
    repeat (first | refine Ops.nil ?_ | refine Ops.pure T rfl (by decide) rfl ?_)
    refine Run.ret1 (by rw [hCf]; exact Proofs.Tryd.func33) Proofs.Tryd.results33 rfl (hR _ _ _ ?_)
    rw [ep]; exact ⟨⟨_, rfl⟩, rfl⟩
  | some k =>
    have e : cutT 58 s = (s.take k, s.drop (k + 1), true) := by simp [cutT, hk]
    have hlt := ix_lt hk
    have hl2 : (s.drop (k + 1)).length ≤ 4620000000000000000 := by simp; omega
    have ep : pOk s = (decide (s.take k = sha256T') && (allR (s.drop (k + 1)) hexT && decide ((s.drop (k + 1)).length = 64))) := by simp [pOk, hk]
    have h5 := h5 k hk
    rw [e]
    generalize hal : s.take k = al at *
    generalize hbd : s.drop (k + 1) = bd at *
    by_cases h1 : al = []
    · subst h1
      repeat (first | refine Run.seq ?_ | refine Run.region ?_ | refine Ops.nil ?_ | refine Run.cond_t rfl ?_ | refine Ops.not rfl (by decide) ?_ | refine Ops.eqlStr rfl (by decide) rfl rfl ?_ | refine Ops.pure T rfl (by decide) rfl ?_)
      refine Ops.call ((errors_New _ _)) rfl (by decide) Proofs.Tryd.call39 rfl ?_
      rintro _ J3 l3 ⟨b, rfl, hb⟩
      repeat (first | refine Ops.nil ?_ | refine Ops.pure T rfl (by decide) rfl ?_)
      refine Run.ret1 (by rw [hCf]; exact Proofs.Tryd.func33) Proofs.Tryd.results33 rfl (hR _ _ _ ?_)
      rw [ep]; exact ⟨⟨_, rfl⟩, rfl⟩
    have h1' : decide (al = []) = false := decide_eq_false h1
    by_cases h2 : bd = []
    · subst h2
      repeat (first | refine Run.seq ?_ | refine Run.region ?_ | refine Ops.nil ?_ | refine Ops.eqlStr rfl (by decide) rfl rfl ?_ | refine Ops.pure T rfl (by decide) rfl ?_)
      rw [h1']
      repeat (first | refine Run.seq ?_ | refine Run.region ?_ | refine Ops.nil ?_ | refine Run.cond_t rfl ?_ | refine Ops.eqlStr rfl (by decide) rfl rfl ?_ | refine Ops.pure T rfl (by decide) rfl ?_)
      refine Ops.call ((errors_New _ _)) rfl (by decide) Proofs.Tryd.call39 rfl ?_
      rintro _ J3 l3 ⟨b, rfl, hb⟩
      repeat (first | refine Ops.nil ?_ | refine Ops.pure T rfl (by decide) rfl ?_)
      refine Run.ret1 (by rw [hCf]; exact Proofs.Tryd.func33) Proofs.Tryd.results33 rfl (hR _ _ _ ?_)
      rw [ep, show decide (([] : Tx).length = 64) = false by rfl, Bool.and_false, Bool.and_false]; exact ⟨⟨_, rfl⟩, rfl⟩
    have h2' : decide (bd = []) = false := decide_eq_false h2
    repeat (first | refine Run.seq ?_ | refine Run.region ?_ | refine Ops.nil ?_ | refine Ops.eqlStr rfl (by decide) rfl rfl ?_ | refine Ops.pure T rfl (by decide) rfl ?_)
    rw [h1']
    repeat (first | refine Ops.nil ?_ | refine Ops.eqlStr rfl (by decide) rfl rfl ?_ | refine Ops.pure T rfl (by decide) rfl ?_)
    rw [h2']
    repeat (first | refine Run.seq ?_ | refine Run.region ?_ | refine Run.skip ?_ | refine Run.cond_f rfl ?_ | refine Ops.pure T rfl (by decide) rfl ?_)
    refine Ops.call ((v1_zzTrimLeft J1 bd hexT hl2 (by decide))) rfl (by decide) Proofs.Tryd.call40 rfl ?_
    rintro _ J2 l2 ⟨z, rfl, hz⟩
    repeat (first | refine Run.seq ?_ | refine Run.region ?_ | refine Ops.nil ?_ | refine Ops.neq rfl (by decide) rfl rfl ?_ | refine Ops.pure T rfl (by decide) rfl ?_ | refine Ops.lenS T rfl (by decide) rfl rfl ?_)
    cases hz0 : decide (z.length = 0) with
    | false =>
      rw [hz0] at hz
      have hz1 : decide ((z.length : Int) = 0) = false := decide_eq_false (by have := of_decide_eq_false hz0; omega)
      rw [hz1]
      repeat (first | refine Run.seq ?_ | refine Run.region ?_ | refine Run.cond_t rfl ?_)
      refine Ops.call ((errors_New _ _)) rfl (by decide) Proofs.Tryd.call39 rfl ?_
      rintro _ J3 l3 ⟨b, rfl, hb⟩
      repeat (first | refine Ops.nil ?_ | refine Ops.pure T rfl (by decide) rfl ?_)
      refine Run.ret1 (by rw [hCf]; exact Proofs.Tryd.func33) Proofs.Tryd.results33 rfl (hR _ _ _ ?_)
      rw [ep, ← hz, Bool.false_and, Bool.and_false]; exact ⟨⟨_, rfl⟩, rfl⟩
    | true =>
      rw [hz0] at hz
      have hz1 : decide ((z.length : Int) = 0) = true := decide_eq_true (by have := of_decide_eq_true hz0; omega)
      rw [hz1]
      repeat (first | refine Run.seq ?_ | refine Run.region ?_ | refine Ops.nil ?_ | refine Run.skip ?_ | refine Run.block ?_ | refine Run.cond_f rfl ?_ | refine Ops.eqlStr rfl (by decide) rfl rfl ?_ | refine Ops.pure T rfl (by decide) rfl ?_)
      by_cases h3 : al = [115, 104, 97, 50, 53, 54]
      · subst h3
        repeat (first | refine Run.seq ?_ | refine Run.region ?_ | refine Ops.nil ?_ | refine Run.inBlock ?_ | refine Run.cond_t rfl ?_ | refine Ops.pure T rfl (by decide) rfl ?_ | refine Ops.lenS T rfl (by decide) rfl rfl ?_)
        refine Ops.ev (Ev.mulI rfl rfl (wI (by decide) (by decide))) rfl (by decide) ?_
        repeat (first | refine Ops.nil ?_ | refine Ops.neq rfl (by decide) rfl rfl ?_)
        cases h6 : decide (bd.length = 64) with
        | false =>
          have h7 : decide ((bd.length : Int) = 2 * 32) = false := decide_eq_false (by have := of_decide_eq_false h6; omega)
          rw [h7]
          repeat (first | refine Run.seq ?_ | refine Run.region ?_ | refine Run.cond_t rfl ?_)
          refine Ops.call ((errors_New _ _)) rfl (by decide) Proofs.Tryd.call39 rfl ?_
          rintro _ J3 l3 ⟨b, rfl, hb⟩
          repeat (first | refine Ops.nil ?_ | refine Ops.pure T rfl (by decide) rfl ?_)
          refine Run.ret1 (by rw [hCf]; exact Proofs.Tryd.func33) Proofs.Tryd.results33 rfl (hR _ _ _ ?_)
          rw [ep, h6, Bool.and_false, Bool.and_false]; exact ⟨⟨_, rfl⟩, rfl⟩
        | true =>
          have h7 : decide ((bd.length : Int) = 2 * 32) = true := decide_eq_true (by have := of_decide_eq_true h6; omega)
          rw [h7]
          repeat (first | refine Run.seq ?_ | refine Run.region ?_ | refine Ops.nil ?_ | refine Run.skip ?_ | refine Run.cond_f rfl ?_ | refine Ops.pure T rfl (by decide) rfl ?_ | refine Ops.store 0 rfl rfl rfl rfl rfl (T.sizeOk rfl) rfl (Nat.le_of_ble_eq_true rfl) rfl rfl ?_)
          refine Run.ret1 (by rw [hCf]; exact Proofs.Tryd.func33) Proofs.Tryd.results33 rfl (hR _ _ _ ?_)
          rw [ep, h6, ← hz]
          have hk6 : k = 6 := by have := congrArg List.length hal; simp at this; omega
          subst hk6; subst hbd
          exact ⟨rfl, rfl⟩
      · rw [decide_eq_false h3]
        repeat (first | refine Run.seq ?_ | refine Run.region ?_ | refine Run.cond_f rfl ?_ | refine Ops.pure T rfl (by decide) rfl ?_)
        refine Ops.call ((v1_Hasher _ al h3 (h5 hz.symm))) rfl (by decide) Proofs.Tryd.call41 rfl ?_
        rintro _ J3 l3 ⟨v, x3, rfl⟩
        repeat (first | refine Run.seq ?_ | refine Run.region ?_ | refine Ops.nil ?_ | refine Run.cond_t rfl ?_ | refine Ops.neqNil T rfl (by decide) rfl rfl rfl rfl rfl ?_ | refine Ops.pure T rfl (by decide) rfl ?_)
        refine Run.ret1 (by rw [hCf]; exact Proofs.Tryd.func33) Proofs.Tryd.results33 rfl (hR _ _ _ ?_)
        rw [ep, show decide (al = sha256T') = false from decide_eq_false h3, Bool.false_and]
        exact ⟨⟨_, rfl⟩, rfl⟩
abbrev zeroH : Value := hashV [] []
theorem v1_NewHash (I : Imm) (s : Tx) (hs : s.length ≤ 4620000000000000000) (h5 : ∀ k, ix 58 s = some k → allR (s.drop (k + 1)) hexT = true → s.take k ≠ [115, 104, 97, 53, 49, 50]) :
    Pure Proofs.Tryd.prog 21 [str s] I fun w J => if digGood s then w = .tuple #[hashV sha256T' (s.drop 7), .nilIface] else ∃ e, errW e ∧ w = .tuple #[zeroH, e] := by
  rw [← pOk_eq]
  refine Spec.enter 14 [(0, _)] Proofs.Tryd.func21 rfl Proofs.Tryd.ntmps21 (by simp) rfl ?_
  intro C hCf hR hCI
  repeat (first | refine Run.seq ?_)
  refine Run.region ?_
  refine Ops.alloc rfl (by decide) (T.zeroOk rfl) rfl (fun b2 => ?_)
  refine Ops.pure T rfl (by decide) rfl ?_
  refine Ops.nil ?_
  repeat (first | refine Run.seq ?_)
  refine Run.region ?_
  refine Ops.ev (Ev.buildS bd38 rfl rfl) rfl (by decide) ?_
  refine Ops.alloc rfl (by decide) (T.zeroOk rfl) rfl (fun b4 => ?_)
  first | refine Ops.store 0 rfl rfl rfl rfl rfl (T.sizeOk rfl) rfl (Nat.le_of_ble_eq_true rfl) rfl rfl ?_ | refine Ops.store 1 rfl rfl rfl rfl rfl (T.sizeOk rfl) rfl (Nat.le_of_ble_eq_true rfl) rfl rfl ?_ | refine Ops.store 2 rfl rfl rfl rfl rfl (T.sizeOk rfl) rfl (Nat.le_of_ble_eq_true rfl) rfl rfl ?_
  refine Ops.nil ?_
  repeat (first | refine Run.seq ?_)
  refine Run.region ?_
  refine Ops.pure T rfl (by decide) rfl ?_
  refine Ops.callP (N := [(b2, _)]) (v1_parse I s [] [] b4 hs h5) (List.Perm.swap _ _ _) rfl (by decide) Proofs.Tryd.call33 rfl ?_
  intro w J1 M1 l1 hw
  cases hp : pOk s with
  | true =>
    rw [hp, if_pos rfl] at hw
    obtain ⟨rfl, rfl⟩ := hw
    repeat (first | refine Run.seq ?_ | refine Run.region ?_ | refine Ops.nil ?_ | refine Run.skip ?_ | refine Run.cond_f rfl ?_ | refine Ops.neqNil T rfl (by decide) rfl rfl rfl rfl rfl ?_ | refine Ops.pure T rfl (by decide) rfl ?_ | refine Ops.loadN 1 rfl (by decide) rfl rfl (T.aggOk rfl) (T.sizeOk rfl) rfl rfl ?_ | refine Ops.store 0 rfl rfl rfl rfl rfl (T.sizeOk rfl) rfl (Nat.le_of_ble_eq_true rfl) rfl rfl ?_)
    refine Run.retCT T 0 (by rw [hCf]; exact Proofs.Tryd.func21) Proofs.Tryd.results21 rfl rfl rfl rfl rfl rfl rfl (hR _ _ _ ?_)
    rw [hp]; exact ⟨rfl, rfl⟩
  | false =>
    rw [hp, if_neg (by decide)] at hw
    obtain ⟨⟨x, rfl⟩, rfl⟩ := hw
    repeat (first | refine Run.seq ?_ | refine Run.region ?_ | refine Ops.nil ?_ | refine Run.cond_t rfl ?_ | refine Ops.neqNil T rfl (by decide) rfl rfl rfl rfl rfl ?_ | refine Ops.pure T rfl (by decide) rfl ?_)
    refine Ops.buildL bd38 rfl (by decide) rfl rfl ?_
    repeat (first | refine Ops.nil ?_ | refine Ops.pure T rfl (by decide) rfl ?_ | refine Ops.store 0 rfl rfl rfl rfl rfl (T.sizeOk rfl) rfl (Nat.le_of_ble_eq_true rfl) rfl rfl ?_)
    refine Run.retCT T 0 (by rw [hCf]; exact Proofs.Tryd.func21) Proofs.Tryd.results21 rfl rfl rfl rfl rfl rfl rfl (hR _ _ _ ?_)
    rw [hp]; exact ⟨rfl, _, ⟨_, rfl⟩, rfl⟩
end Go.V
/-
  A hash's text read: the document's reading, the package's from text.
-/
namespace Go.V
open Go.RowKit
set_option linter.unusedVariables false
set_option linter.unusedSimpArgs false
set_option maxRecDepth 10000
attribute [local irreducible] Run Ops QD
def otherAl (s : Tx) : Bool := match ix 58 s with
  | some k => decide (s.take k = [115, 104, 97, 53, 49, 50]) || decide (s.take k = [115, 104, 97, 51, 56, 52])
  | none => false
/-- one colon, and of another algorithm -/
def hOpen (s : Tx) : Bool := decide (ixI 58 s = lxI 58 s) && !digGood s && otherAl s
theorem spec_HashRead (I : Imm) (s : Tx) (hs : s.length ≤ 4620000000000000000) : Pure Proofs.Tryd.prog 7 [str s] I fun w J =>
    w = .tuple #[if digGood s then hashV sha256T' (s.drop 7) else zeroH, .bool (digGood s), .bool (hOpen s)] := by
  refine Spec.enter 33 [(0, _)] Proofs.Tryd.func7 rfl Proofs.Tryd.ntmps7 (by simp) rfl ?_
  intro C hCf hR hCI
  repeat (first | refine Run.seq ?_)
  refine Run.region ?_
  refine Ops.alloc rfl (by decide) (T.zeroOk rfl) rfl (fun b2 => ?_)
  repeat (first | refine Run.seq ?_ | refine Run.region ?_ | refine Ops.nil ?_ | refine Ops.pure T rfl (by decide) rfl ?_)
  refine Ops.call ((spec_firstOf s 58 I hs)) rfl (by decide) Proofs.Tryd.call18 rfl ?_
  rintro _ J1 l1 rfl
  cases hk : ix 58 s with
  | none =>
    have hl : lxI 58 s = -1 := by rw [lxI, lx_none.2 (ix_none.1 hk)]
    have hd : digGood s = false := by
      cases h : digGood s with
      | false => rfl
      | true => rw [ix_dig h] at hk; cases hk
    have ho : hOpen s = false := by simp [hOpen, otherAl, hk]
    rw [ixI_none hk]
    repeat (first | refine Run.seq ?_ | refine Run.region ?_ | refine Ops.nil ?_ | refine Run.cond_t rfl ?_ | refine Ops.not rfl (by decide) ?_ | refine Ops.lss rfl (by decide) rfl rfl ?_ | refine Ops.pure T rfl (by decide) rfl ?_ | refine Ops.loadN 0 rfl (by decide) rfl rfl (T.aggOk rfl) (T.sizeOk rfl) rfl rfl ?_ | refine Ops.store 0 rfl rfl rfl rfl rfl (T.sizeOk rfl) rfl (Nat.le_of_ble_eq_true rfl) rfl rfl ?_)
    refine Run.retCTT T 0 (by rw [hCf]; exact Proofs.Tryd.func7) Proofs.Tryd.results7 rfl rfl rfl rfl rfl rfl rfl rfl (hR _ _ _ ?_)
    rw [hd, ho]; exact ⟨rfl, rfl⟩
  | some k =>
    have hlt := ix_lt hk
    rw [ixI_eq hk]
    repeat (first | refine Run.seq ?_ | refine Run.region ?_ | refine Ops.nil ?_ | refine Ops.lss rfl (by decide) rfl rfl ?_ | refine Ops.pure T rfl (by decide) rfl ?_)
    rw [decide_eq_false (show ¬ (k : Int) < 0 by omega)]
    skip
    refine Ops.call ((spec_lastOf s 58 J1 hs)) rfl (by decide) Proofs.Tryd.call19 rfl ?_
    rintro _ J2 l2 rfl
    repeat (first | refine Ops.nil ?_ | refine Ops.neq rfl (by decide) rfl rfl ?_ | refine Ops.pure T rfl (by decide) rfl ?_)
    cases hl : decide ((k : Int) = lxI 58 s) with
    | false =>
      have hd : digGood s = false := by
        cases h : digGood s with
        | false => rfl
        | true =>
          have e := ix_dig h
          rw [hk] at e; cases e
          have : lx 58 s = some 6 := by
            obtain ⟨e, h1, h2⟩ := digGood_split h
            rw [e]; exact lx_app (x := [115, 104, 97, 50, 53, 54]) (allIn_not 58 h2 (by decide))
          rw [lxI, this] at hl
          cases hl
      have ho : hOpen s = false := by simp only [hOpen, ixI_eq hk, hl, Bool.false_and]
      repeat (first | refine Run.seq ?_ | refine Run.region ?_ | refine Ops.nil ?_ | refine Run.cond_t rfl ?_ | refine Ops.pure T rfl (by decide) rfl ?_ | refine Ops.loadN 0 rfl (by decide) rfl rfl (T.aggOk rfl) (T.sizeOk rfl) rfl rfl ?_ | refine Ops.store 0 rfl rfl rfl rfl rfl (T.sizeOk rfl) rfl (Nat.le_of_ble_eq_true rfl) rfl rfl ?_)
      refine Run.retCTT T 0 (by rw [hCf]; exact Proofs.Tryd.func7) Proofs.Tryd.results7 rfl rfl rfl rfl rfl rfl rfl rfl (hR _ _ _ ?_)
      rw [hd, ho]; exact ⟨rfl, rfl⟩
    | true =>
      repeat (first | refine Run.seq ?_ | refine Run.region ?_ | refine Run.skip ?_ | refine Run.cond_f rfl ?_ | refine Ops.pure T rfl (by decide) rfl ?_)
      refine Ops.call ((spec_digestGood J2 s hs)) rfl (by decide) Proofs.Tryd.call20 rfl ?_
      rintro _ J3 l3 rfl
      have ho : hOpen s = (!digGood s && otherAl s) := by simp only [hOpen, ixI_eq hk, hl, Bool.true_and]
      cases hd : digGood s with
      | true =>
        have h7 : 7 ≤ s.length := by obtain ⟨e, h1, h2⟩ := digGood_split hd; simp at h1; omega
        repeat (first | refine Run.seq ?_ | refine Run.region ?_ | refine Ops.nil ?_ | refine Run.cond_t rfl ?_ | refine Ops.pure T rfl (by decide) rfl ?_ | refine Ops.sliceStrLo rfl (by decide) (T.undOk rfl) rfl rfl (by first | omega | (simp only [List.length_cons, List.length_nil] ; omega) | (simp; omega)) (by first | omega | (simp only [List.length_cons, List.length_nil] ; omega) | (simp; omega)) ?_)
        refine Ops.buildL bd24 rfl (by decide) rfl rfl ?_
        repeat (first | refine Ops.nil ?_ | refine Ops.pure T rfl (by decide) rfl ?_ | refine Ops.store 0 rfl rfl rfl rfl rfl (T.sizeOk rfl) rfl (Nat.le_of_ble_eq_true rfl) rfl rfl ?_)
        refine Run.retCTT T 0 (by rw [hCf]; exact Proofs.Tryd.func7) Proofs.Tryd.results7 rfl rfl rfl rfl rfl rfl rfl rfl (hR _ _ _ ?_)
        rw [ho, hd]; exact ⟨rfl, rfl⟩
      | false =>
        repeat (first | refine Run.seq ?_ | refine Ops.nil ?_ | refine Run.skip ?_ | refine Run.cond_f rfl ?_)
        have ho2 : otherAl s = (decide (s.take k = [115, 104, 97, 53, 49, 50]) || decide (s.take k = [115, 104, 97, 51, 56, 52])) := by simp [otherAl, hk]
        refine Run.regionAny (fun _ => True) (bl 14 0) (by kernel_rfl) (by kernel_rfl) ?_
        refine RAny.tk 1 (bl 14 2) rfl (by kernel_rfl) (by decide) (fun _ _ => trivial) (Yld.eval T rfl rfl) ?_
        refine RAny.tk 2 (bl 14 6) rfl (by kernel_rfl) (by decide) (fun _ _ => trivial) (Yld.eval T rfl rfl) ?_
        refine RAny.tk 3 (bl 14 14) rfl (by kernel_rfl) (by decide) (fun _ _ => trivial) (Yld.ev (Ev.cutSHi T rfl rfl rfl (by first | omega | (simp only [List.length_cons, List.length_nil] ; omega) | (simp; omega)) (by first | omega | (simp only [List.length_cons, List.length_nil] ; omega) | (simp; omega))) rfl) ?_
        refine RAny.tk 4 (bl 14 30) rfl (by kernel_rfl) (by decide) (fun _ _ => trivial) (Yld.ev (Ev.eqlS rfl rfl) rfl) ?_
        refine RAny.tk 5 (bl 14 62) rfl (by kernel_rfl) (by decide) (fun _ _ => trivial) (Yld.eval T rfl rfl) ?_
        rw [show ((k : Int)).toNat = k by omega]
        skip
        cases h1 : decide (s.take k = [115, 104, 97, 53, 49, 50]) with
        | true =>
          first | refine RAny.tk 6 (bl 14 126) rfl (by kernel_rfl) (by decide) (fun _ _ => trivial) (Yld.eval T rfl rfl) ?_ | refine RAny.tk 6 (bl 14 126) rfl (by kernel_rfl) (by decide) (fun _ _ => trivial) (Yld.off rfl) ?_ | refine RAny.tu 6 (bl 14 126) rfl (by kernel_rfl) (by decide) (fun _ _ => trivial) rfl ?_
          first | refine RAny.tk 7 (bl 14 254) rfl (by kernel_rfl) (by decide) (fun _ _ => trivial) (Yld.eval T rfl rfl) ?_ | refine RAny.tk 7 (bl 14 254) rfl (by kernel_rfl) (by decide) (fun _ _ => trivial) (Yld.off rfl) ?_ | refine RAny.tu 7 (bl 14 254) rfl (by kernel_rfl) (by decide) (fun _ _ => trivial) rfl ?_
          first | refine RAny.tk 8 (bl 14 510) rfl (by kernel_rfl) (by decide) (fun _ _ => trivial) (Yld.ev (Ev.cutSHi T rfl rfl rfl (by first | omega | (simp only [List.length_cons, List.length_nil] ; omega) | (simp; omega)) (by first | omega | (simp only [List.length_cons, List.length_nil] ; omega) | (simp; omega))) rfl) ?_ | refine RAny.tk 8 (bl 14 510) rfl (by kernel_rfl) (by decide) (fun _ _ => trivial) (Yld.off rfl) ?_ | refine RAny.tu 8 (bl 14 510) rfl (by kernel_rfl) (by decide) (fun _ _ => trivial) rfl ?_
          first | refine RAny.tk 9 (bl 14 1022) rfl (by kernel_rfl) (by decide) (fun _ _ => trivial) (Yld.ev (Ev.eqlS rfl rfl) rfl) ?_ | refine RAny.tk 9 (bl 14 1022) rfl (by kernel_rfl) (by decide) (fun _ _ => trivial) (Yld.off rfl) ?_ | refine RAny.tu 9 (bl 14 1022) rfl (by kernel_rfl) (by decide) (fun _ _ => trivial) rfl ?_
          refine RAny.tk 10 (bl 14 2046) rfl (by kernel_rfl) (by decide) (fun _ _ => trivial) (Yld.eval T rfl rfl) ?_
          refine RAny.on 0 (bl 14 2047) rfl (by kernel_rfl) rfl (by decide) (Eff.yv (Yv.loadN 0 T rfl rfl rfl rfl rfl rfl) ⟨fun _ _ => trivial, ?_⟩)
          refine RAny.os 11 (bl 14 4095) rfl (by kernel_rfl) rfl (Eff.store 0 rfl rfl rfl rfl (T.sizeOk rfl) rfl (Nat.le_of_ble_eq_true rfl) rfl rfl ⟨fun _ _ => trivial, ?_⟩)
          refine RAny.tk 12 (bl 14 8191) rfl (by kernel_rfl) (by decide) (fun _ _ => trivial) (Yld.eval T rfl rfl) ?_
          refine RAny.tk 13 (bl 14 16383) rfl (by kernel_rfl) (by decide) (fun _ _ => trivial) (Yld.eval T rfl rfl) ?_
          refine RAny.done _ (by kernel_rfl) ?_
          skip
          refine Run.retCTT T 0 (by rw [hCf]; exact Proofs.Tryd.func7) Proofs.Tryd.results7 rfl rfl rfl rfl rfl rfl rfl rfl (hR _ _ _ ?_)
          rw [ho, hd, ho2, h1]; exact ⟨rfl, rfl⟩
        | false =>
          skip
          first | refine RAny.tk 6 (bl 14 126) rfl (by kernel_rfl) (by decide) (fun _ _ => trivial) (Yld.eval T rfl rfl) ?_ | refine RAny.tk 6 (bl 14 126) rfl (by kernel_rfl) (by decide) (fun _ _ => trivial) (Yld.off rfl) ?_ | refine RAny.tu 6 (bl 14 126) rfl (by kernel_rfl) (by decide) (fun _ _ => trivial) rfl ?_
          first | refine RAny.tk 7 (bl 14 254) rfl (by kernel_rfl) (by decide) (fun _ _ => trivial) (Yld.eval T rfl rfl) ?_ | refine RAny.tk 7 (bl 14 254) rfl (by kernel_rfl) (by decide) (fun _ _ => trivial) (Yld.off rfl) ?_ | refine RAny.tu 7 (bl 14 254) rfl (by kernel_rfl) (by decide) (fun _ _ => trivial) rfl ?_
          first | refine RAny.tk 8 (bl 14 510) rfl (by kernel_rfl) (by decide) (fun _ _ => trivial) (Yld.ev (Ev.cutSHi T rfl rfl rfl (by first | omega | (simp only [List.length_cons, List.length_nil] ; omega) | (simp; omega)) (by first | omega | (simp only [List.length_cons, List.length_nil] ; omega) | (simp; omega))) rfl) ?_ | refine RAny.tk 8 (bl 14 510) rfl (by kernel_rfl) (by decide) (fun _ _ => trivial) (Yld.off rfl) ?_ | refine RAny.tu 8 (bl 14 510) rfl (by kernel_rfl) (by decide) (fun _ _ => trivial) rfl ?_
          first | refine RAny.tk 9 (bl 14 1022) rfl (by kernel_rfl) (by decide) (fun _ _ => trivial) (Yld.ev (Ev.eqlS rfl rfl) rfl) ?_ | refine RAny.tk 9 (bl 14 1022) rfl (by kernel_rfl) (by decide) (fun _ _ => trivial) (Yld.off rfl) ?_ | refine RAny.tu 9 (bl 14 1022) rfl (by kernel_rfl) (by decide) (fun _ _ => trivial) rfl ?_
          refine RAny.tk 10 (bl 14 2046) rfl (by kernel_rfl) (by decide) (fun _ _ => trivial) (Yld.eval T rfl rfl) ?_
          rw [show ((k : Int)).toNat = k by omega]
          refine RAny.on 0 (bl 14 2047) rfl (by kernel_rfl) rfl (by decide) (Eff.yv (Yv.loadN 0 T rfl rfl rfl rfl rfl rfl) ⟨fun _ _ => trivial, ?_⟩)
          refine RAny.os 11 (bl 14 4095) rfl (by kernel_rfl) rfl (Eff.store 0 rfl rfl rfl rfl (T.sizeOk rfl) rfl (Nat.le_of_ble_eq_true rfl) rfl rfl ⟨fun _ _ => trivial, ?_⟩)
          refine RAny.tk 12 (bl 14 8191) rfl (by kernel_rfl) (by decide) (fun _ _ => trivial) (Yld.eval T rfl rfl) ?_
          refine RAny.tk 13 (bl 14 16383) rfl (by kernel_rfl) (by decide) (fun _ _ => trivial) (Yld.eval T rfl rfl) ?_
          refine RAny.done _ (by kernel_rfl) ?_
          skip
          refine Run.retCTT T 0 (by rw [hCf]; exact Proofs.Tryd.func7) Proofs.Tryd.results7 rfl rfl rfl rfl rfl rfl rfl rfl (hR _ _ _ ?_)
          rw [ho, hd, ho2, h1]; exact ⟨rfl, rfl⟩
end Go.V
/-
  A hash read from text, and its texts.
-/
namespace Go.V
open Go.RowKit
set_option linter.unusedVariables false
set_option linter.unusedSimpArgs false
set_option maxRecDepth 10000
attribute [local irreducible] Run Ops QD
theorem impl_hashOf (I : Imm) (a h : Tx) : Pure Proofs.Tryd.prog 14 [hashV a h] I fun w J => w = hashV a h := by
  refine Spec.enter 4 [(0, _)] Proofs.Tryd.func14 rfl Proofs.Tryd.ntmps14 (by simp) rfl ?_
  intro C hCf hR hCI
  repeat (first | refine Run.seq ?_)
  refine Run.region ?_
  refine Ops.box rfl (by decide) rfl rfl (fun b => ?_)
  refine Ops.alloc rfl (by decide) (T.zeroOk rfl) rfl (fun b2 => ?_)
  refine Ops.nil ?_
  repeat (first | refine Run.seq ?_)
  repeat (first | refine Run.region ?_ | refine Ops.nil ?_ | refine Ops.loadN 1 rfl (by decide) rfl rfl (T.aggOk rfl) (T.sizeOk rfl) rfl rfl ?_ | refine Ops.store 0 rfl rfl rfl rfl rfl (T.sizeOk rfl) rfl (Nat.le_of_ble_eq_true rfl) rfl rfl ?_)
  refine Run.retC T 0 (by rw [hCf]; exact Proofs.Tryd.func14) Proofs.Tryd.results14 rfl rfl rfl rfl rfl rfl (hR _ _ _ ?_)
  exact ⟨rfl, rfl⟩
theorem Hash_to (I : Imm) (a h : Tx) : Pure Proofs.Tryd.prog 24 [hashV a h] I fun w J => w = hashV a h := by
  refine Spec.enter 4 [(0, _)] Proofs.Tryd.func24 rfl Proofs.Tryd.ntmps24 (by simp) rfl ?_
  intro C hCf hR hCI
  repeat (first | refine Run.seq ?_)
  refine Run.region ?_
  refine Ops.box rfl (by decide) rfl rfl (fun b => ?_)
  refine Ops.alloc rfl (by decide) (T.zeroOk rfl) rfl (fun b2 => ?_)
  refine Ops.nil ?_
  repeat (first | refine Run.seq ?_)
  repeat (first | refine Run.region ?_ | refine Ops.nil ?_ | refine Ops.loadN 1 rfl (by decide) rfl rfl (T.aggOk rfl) (T.sizeOk rfl) rfl rfl ?_ | refine Ops.store 0 rfl rfl rfl rfl rfl (T.sizeOk rfl) rfl (Nat.le_of_ble_eq_true rfl) rfl rfl ?_)
  refine Run.retC T 0 (by rw [hCf]; exact Proofs.Tryd.func24) Proofs.Tryd.results24 rfl rfl rfl rfl rfl rfl (hR _ _ _ ?_)
  exact ⟨rfl, rfl⟩
theorem impl_HashParse (I : Imm) (s : Tx) (hs : s.length ≤ 4620000000000000000) (h5 : ∀ k, ix 58 s = some k → allR (s.drop (k + 1)) hexT = true → s.take k ≠ [115, 104, 97, 53, 49, 50]) :
    Pure Proofs.Tryd.prog 9 [str s] I fun w J => w = .tuple #[if digGood s then hashV sha256T' (s.drop 7) else zeroH, .bool (digGood s)] := by
  refine Spec.enter 15 [(0, _)] Proofs.Tryd.func9 rfl Proofs.Tryd.ntmps9 (by simp) rfl ?_
  intro C hCf hR hCI
  repeat (first | refine Run.seq ?_)
  refine Run.region ?_
  refine Ops.alloc rfl (by decide) (T.zeroOk rfl) rfl (fun b2 => ?_)
  refine Ops.pure T rfl (by decide) rfl ?_
  refine Ops.nil ?_
  repeat (first | refine Run.seq ?_)
  refine Run.region ?_
  refine Ops.pure T rfl (by decide) rfl ?_
  refine Ops.call ((v1_NewHash I s hs h5)) rfl (by decide) Proofs.Tryd.call21 rfl ?_
  rintro w J1 l1 hw
  cases hd : digGood s with
  | true =>
    rw [hd, if_pos rfl] at hw
    subst hw
    skip
    refine Ops.pure T rfl (by decide) rfl ?_
    refine Ops.pure T rfl (by decide) rfl ?_
    refine Ops.pure T rfl (by decide) rfl ?_
    refine Ops.alloc rfl (by decide) (T.zeroOk rfl) rfl (fun b4 => ?_)
    first | refine Ops.store 0 rfl rfl rfl rfl rfl (T.sizeOk rfl) rfl (Nat.le_of_ble_eq_true rfl) rfl rfl ?_ | refine Ops.store 1 rfl rfl rfl rfl rfl (T.sizeOk rfl) rfl (Nat.le_of_ble_eq_true rfl) rfl rfl ?_ | refine Ops.store 2 rfl rfl rfl rfl rfl (T.sizeOk rfl) rfl (Nat.le_of_ble_eq_true rfl) rfl rfl ?_
    refine Ops.pure T rfl (by decide) rfl ?_
    refine Ops.nil ?_
    repeat (first | refine Run.seq ?_)
    refine Run.regionAny (fun _ => True) (bl 6 0) (by kernel_rfl) (by kernel_rfl) ?_
    refine RAny.tk 2 (bl 6 4) rfl (by kernel_rfl) (by decide) (fun _ _ => trivial) (Yld.eval T rfl rfl) ?_
    refine RAny.tk 3 (bl 6 12) rfl (by kernel_rfl) (by decide) (fun _ _ => trivial) (Yld.ev (Ev.eqlNil T rfl rfl rfl rfl rfl) rfl) ?_
    refine RAny.on 0 (bl 6 13) rfl (by kernel_rfl) rfl (by decide) (Eff.yv (Yv.loadN 0 T rfl rfl rfl rfl rfl rfl) ⟨fun _ _ => trivial, ?_⟩)
    refine RAny.on 1 (bl 6 15) rfl (by kernel_rfl) rfl (by decide) (Eff.call (impl_hashOf _ _ _) Proofs.Tryd.call14 rfl fun w J3 l3 hw => ⟨fun _ _ => trivial, ?_⟩)
    subst hw
    refine RAny.os 4 (bl 6 31) rfl (by kernel_rfl) rfl (Eff.store 1 rfl rfl rfl rfl (T.sizeOk rfl) rfl (Nat.le_of_ble_eq_true rfl) rfl rfl ⟨fun _ _ => trivial, ?_⟩)
    refine RAny.tk 5 (bl 6 63) rfl (by kernel_rfl) (by decide) (fun _ _ => trivial) (Yld.eval T rfl rfl) ?_
    refine RAny.done _ (by kernel_rfl) ?_
    skip
    refine Run.retCT T 1 (by rw [hCf]; exact Proofs.Tryd.func9) Proofs.Tryd.results9 rfl rfl rfl rfl rfl rfl rfl (hR _ _ _ ?_)
    rw [hd]; exact ⟨rfl, rfl⟩
  | false =>
    rw [hd, if_neg (by decide)] at hw
    obtain ⟨_, ⟨x, rfl⟩, rfl⟩ := hw
    skip
    refine Ops.pure T rfl (by decide) rfl ?_
    refine Ops.pure T rfl (by decide) rfl ?_
    refine Ops.pure T rfl (by decide) rfl ?_
    refine Ops.alloc rfl (by decide) (T.zeroOk rfl) rfl (fun b4 => ?_)
    first | refine Ops.store 0 rfl rfl rfl rfl rfl (T.sizeOk rfl) rfl (Nat.le_of_ble_eq_true rfl) rfl rfl ?_ | refine Ops.store 1 rfl rfl rfl rfl rfl (T.sizeOk rfl) rfl (Nat.le_of_ble_eq_true rfl) rfl rfl ?_ | refine Ops.store 2 rfl rfl rfl rfl rfl (T.sizeOk rfl) rfl (Nat.le_of_ble_eq_true rfl) rfl rfl ?_
    refine Ops.pure T rfl (by decide) rfl ?_
    refine Ops.nil ?_
    repeat (first | refine Run.seq ?_)
    refine Run.regionAny (fun _ => True) (bl 6 0) (by kernel_rfl) (by kernel_rfl) ?_
    refine RAny.tk 2 (bl 6 4) rfl (by kernel_rfl) (by decide) (fun _ _ => trivial) (Yld.eval T rfl rfl) ?_
    refine RAny.tk 3 (bl 6 12) rfl (by kernel_rfl) (by decide) (fun _ _ => trivial) (Yld.ev (Ev.eqlNil T rfl rfl rfl rfl rfl) rfl) ?_
    refine RAny.on 0 (bl 6 13) rfl (by kernel_rfl) rfl (by decide) (Eff.yv (Yv.loadN 0 T rfl rfl rfl rfl rfl rfl) ⟨fun _ _ => trivial, ?_⟩)
    refine RAny.on 1 (bl 6 15) rfl (by kernel_rfl) rfl (by decide) (Eff.call (impl_hashOf _ _ _) Proofs.Tryd.call14 rfl fun w J3 l3 hw => ⟨fun _ _ => trivial, ?_⟩)
    subst hw
    refine RAny.os 4 (bl 6 31) rfl (by kernel_rfl) rfl (Eff.store 1 rfl rfl rfl rfl (T.sizeOk rfl) rfl (Nat.le_of_ble_eq_true rfl) rfl rfl ⟨fun _ _ => trivial, ?_⟩)
    refine RAny.tk 5 (bl 6 63) rfl (by kernel_rfl) (by decide) (fun _ _ => trivial) (Yld.eval T rfl rfl) ?_
    refine RAny.done _ (by kernel_rfl) ?_
    skip
    refine Run.retCT T 1 (by rw [hCf]; exact Proofs.Tryd.func9) Proofs.Tryd.results9 rfl rfl rfl rfl rfl rfl rfl (hR _ _ _ ?_)
    rw [hd]; exact ⟨rfl, rfl⟩
theorem v1_UnmarshalText (I : Imm) (s a x : Tx) (h : Nat) (v : Value) (hv : Sl tU8 I v s) (hs : s.length ≤ 4620000000000000000) (h5 : ∀ k, ix 58 s = some k → allR (s.drop (k + 1)) hexT = true → s.take k ≠ [115, 104, 97, 53, 49, 50]) :
    Spec Proofs.Tryd.prog 23 [.pointer (some ⟨h, 0, none⟩), v] I [(h, hashO a x)] fun w J M' => if digGood s then w = .nilIface ∧ M' = [(h, hashO sha256T' (s.drop 7))] else errW w ∧ M' = [(h, hashO a x)] := by
  rw [← pOk_eq]
  refine Spec.enter 9 [(0, _), (1, _)] Proofs.Tryd.func23 rfl Proofs.Tryd.ntmps23 (by simp) rfl ?_
  intro C hCf hR hCI
  repeat (first | refine Run.seq ?_)
  refine Run.regionO (D := [some 4]) [true] rfl rfl rfl (fun Z hZ => ?_)
  refine QD.ev T (by decide) rfl rfl ?_
  refine QD.nil (hZ _ ?_)
  clear hZ Z
  repeat (first | refine Run.seq ?_)
  refine Run.regionP (D := [some 5, some 6, some 7, some 8, some 4]) [true, true, true] 3 rfl rfl rfl (by simp only [List.drop_succ_cons, List.drop_zero]; rfl) (fun Z hZ => ?_)
  refine QD.ev T (by decide) rfl rfl ?_
  refine QD.ev T (by decide) rfl rfl ?_
  refine QD.yv (by decide) rfl (Yv.bytesSl T hv rfl rfl rfl rfl) ?_
  refine QD.nil (hZ _ ?_)
  clear hZ Z
  refine Ops.callP (N := []) ((v1_parse I s a x h hs h5)) (.refl _) rfl (by decide) Proofs.Tryd.call33 rfl ?_
  rintro w J1 M1 l1 hw
  refine Ops.pure T rfl (by decide) rfl ?_
  refine Ops.nil ?_
  skip
  refine Run.ret1 (by rw [hCf]; exact Proofs.Tryd.func23) Proofs.Tryd.results23 rfl (hR _ _ _ ?_)
  exact hw
theorem impl_HashOfText (I : Imm) (s : Tx) (hs : s.length ≤ 4620000000000000000) (h5 : ∀ k, ix 58 s = some k → allR (s.drop (k + 1)) hexT = true → s.take k ≠ [115, 104, 97, 53, 49, 50]) :
    Pure Proofs.Tryd.prog 10 [str s, .bool false] I fun w J => w = .tuple #[if digGood s then hashV sha256T' (s.drop 7) else zeroH, .bool (digGood s)] := by
  refine Spec.enter 20 [(0, _), (1, _)] Proofs.Tryd.func10 rfl Proofs.Tryd.ntmps10 (by simp) rfl ?_
  intro C hCf hR hCI
  repeat (first | refine Run.seq ?_)
  refine Run.region ?_
  refine Ops.alloc rfl (by decide) (T.zeroOk rfl) rfl (fun b4 => ?_)
  refine Ops.pure T rfl (by decide) rfl ?_
  refine Ops.nil ?_
  repeat (first | refine Run.seq ?_)
  refine Run.region ?_
  refine Ops.alloc rfl (by decide) (T.zeroOk rfl) rfl (fun b6 => ?_)
  refine Ops.nil ?_
  repeat (first | refine Run.seq ?_ | refine Run.region ?_ | refine Ops.nil ?_ | refine Run.cond_f rfl ?_ | refine Ops.pure T rfl (by decide) rfl ?_)
  refine Ops.convBytes T rfl (by decide) rfl rfl rfl rfl fun v J1 l1 hv => ?_
  refine Ops.callP (N := [(b4, _)]) (v1_UnmarshalText J1 s [] [] b6 v hv hs h5) (List.Perm.swap _ _ _) rfl (by decide) Proofs.Tryd.call23 rfl ?_
  intro w J2 M2 l2 hw
  cases hd : digGood s with
  | true =>
    rw [hd, if_pos rfl] at hw
    obtain ⟨rfl, rfl⟩ := hw
    repeat (first | refine Run.seq ?_ | refine Run.region ?_ | refine Ops.nil ?_ | refine Run.skip ?_ | refine Run.cond_f rfl ?_ | refine Ops.neqNil T rfl (by decide) rfl rfl rfl rfl rfl ?_ | refine Ops.pure T rfl (by decide) rfl ?_ | refine Ops.loadN 1 rfl (by decide) rfl rfl (T.aggOk rfl) (T.sizeOk rfl) rfl rfl ?_)
    refine Ops.call ((impl_hashOf J2 _ _)) rfl (by decide) Proofs.Tryd.call14 rfl ?_
    rintro _ J3 l3 rfl
    repeat (first | refine Ops.nil ?_ | refine Ops.pure T rfl (by decide) rfl ?_ | refine Ops.store 0 rfl rfl rfl rfl rfl (T.sizeOk rfl) rfl (Nat.le_of_ble_eq_true rfl) rfl rfl ?_)
    refine Run.retCT T 0 (by rw [hCf]; exact Proofs.Tryd.func10) Proofs.Tryd.results10 rfl rfl rfl rfl rfl rfl rfl (hR _ _ _ ?_)
    rw [hd]; exact ⟨rfl, rfl⟩
  | false =>
    rw [hd, if_neg (by decide)] at hw
    obtain ⟨⟨y, rfl⟩, rfl⟩ := hw
    repeat (first | refine Run.seq ?_ | refine Run.region ?_ | refine Ops.nil ?_ | refine Run.cond_t rfl ?_ | refine Ops.neqNil T rfl (by decide) rfl rfl rfl rfl rfl ?_ | refine Ops.pure T rfl (by decide) rfl ?_)
    refine Ops.buildL bd24 rfl (by decide) rfl rfl ?_
    repeat (first | refine Ops.nil ?_ | refine Ops.pure T rfl (by decide) rfl ?_ | refine Ops.store 0 rfl rfl rfl rfl rfl (T.sizeOk rfl) rfl (Nat.le_of_ble_eq_true rfl) rfl rfl ?_)
    refine Run.retCT T 0 (by rw [hCf]; exact Proofs.Tryd.func10) Proofs.Tryd.results10 rfl rfl rfl rfl rfl rfl rfl (hR _ _ _ ?_)
    rw [hd]; exact ⟨rfl, rfl⟩
abbrev hText (a h : Tx) : Tx := a ++ [58] ++ h
theorem v1_String (I : Imm) (a h : Tx) (ha : a.length ≤ 1099511627776) (hh : h.length ≤ 1099511627776) : Pure Proofs.Tryd.prog 27 [hashV a h] I fun w J => w = str (hText a h) := by
  refine Spec.enter 9 [(0, _)] Proofs.Tryd.func27 rfl Proofs.Tryd.ntmps27 (by simp) rfl ?_
  intro C hCf hR hCI
  repeat (first | refine Run.seq ?_)
  refine Run.region ?_
  refine Ops.box rfl (by decide) rfl rfl (fun b => ?_)
  refine Ops.pure T rfl (by decide) rfl ?_
  refine Ops.nil ?_
  repeat (first | refine Run.seq ?_)
  refine Run.regionO (D := [some 3, some 4, some 5, some 6, some 7, some 8, some 2]) [true, true, true, true, true, true, true] rfl rfl rfl (fun Z hZ => ?_)
  refine QD.ev T (by decide) rfl rfl ?_
  first | refine QD.yv (by decide) rfl (Yv.load 0 T rfl rfl rfl rfl) ?_ | refine QD.yv (by decide) rfl (Yv.load 1 T rfl rfl rfl rfl) ?_ | refine QD.yv (by decide) rfl (Yv.load 2 T rfl rfl rfl rfl) ?_
  refine QD.e (Ev.catS rfl rfl (by first | omega | (simp only [List.length_cons, List.length_nil] ; omega) | (simp; omega))) (by decide) rfl ?_
  refine QD.ev T (by decide) rfl rfl ?_
  first | refine QD.yv (by decide) rfl (Yv.load 0 T rfl rfl rfl rfl) ?_ | refine QD.yv (by decide) rfl (Yv.load 1 T rfl rfl rfl rfl) ?_ | refine QD.yv (by decide) rfl (Yv.load 2 T rfl rfl rfl rfl) ?_
  refine QD.e (Ev.catS rfl rfl (by first | omega | (simp only [List.length_cons, List.length_nil] ; omega) | (simp; omega))) (by decide) rfl ?_
  refine QD.ev T (by decide) rfl rfl ?_
  refine QD.nil (hZ _ ?_)
  clear hZ Z
  skip
  refine Run.fin (Run.ret1 (by rw [hCf]; exact Proofs.Tryd.func27) Proofs.Tryd.results27 rfl (hR _ _ _ ?_))
  exact ⟨rfl, rfl⟩
theorem v1_MarshalText (I : Imm) (a h : Tx) (ha : a.length ≤ 1099511627776) (hh : h.length ≤ 1099511627776) : Pure Proofs.Tryd.prog 25 [hashV a h] I fun w J => ∃ v, w = .tuple #[v, .nilIface] ∧ Sl tU8 J v (hText a h) := by
  refine Spec.enter 7 [(0, _)] Proofs.Tryd.func25 rfl Proofs.Tryd.ntmps25 (by simp) rfl ?_
  intro C hCf hR hCI
  repeat (first | refine Run.seq ?_)
  refine Run.region ?_
  refine Ops.box rfl (by decide) rfl rfl (fun b => ?_)
  refine Ops.pure T rfl (by decide) rfl ?_
  refine Ops.pure T rfl (by decide) rfl ?_
  refine Ops.nil ?_
  repeat (first | refine Run.seq ?_)
  refine Run.regionP (D := [some 4, some 5, some 6, some 2, some 3]) [true] 1 rfl rfl rfl (by simp only [List.drop_succ_cons, List.drop_zero]; rfl) (fun Z hZ => ?_)
  first | refine QD.yv (by decide) rfl (Yv.loadN 0 T rfl rfl rfl rfl rfl rfl) ?_ | refine QD.yv (by decide) rfl (Yv.loadN 1 T rfl rfl rfl rfl rfl rfl) ?_ | refine QD.yv (by decide) rfl (Yv.loadN 2 T rfl rfl rfl rfl rfl rfl) ?_
  refine QD.nil (hZ _ ?_)
  clear hZ Z
  refine Ops.call ((v1_String I a h ha hh)) rfl (by decide) Proofs.Tryd.call27 rfl ?_
  rintro _ J1 l1 rfl
  refine Ops.convBytes T rfl (by decide) rfl rfl rfl rfl fun v J2 l2 hv => ?_
  refine Ops.pure T rfl (by decide) rfl ?_
  refine Ops.pure T rfl (by decide) rfl ?_
  refine Ops.nil ?_
  skip
  refine Run.fin (Run.ret2 (by rw [hCf]; exact Proofs.Tryd.func25) Proofs.Tryd.results25 rfl rfl (hR _ _ _ ?_))
  exact ⟨rfl, v, rfl, hv⟩
end Go.V
/-
  Plain texts written as JSON.
-/
namespace Go.V
open Go.RowKit
set_option linter.unusedVariables false
set_option linter.unusedSimpArgs false
set_option maxRecDepth 10000
attribute [local irreducible] Run Ops QD
theorem btB : Bt Proofs.Tryd.prog 54 5 := ⟨el54, Proofs.Tryd.t5, by kernel_rfl, rfl⟩
/-- a byte that JSON writes as it is -/
def plB (b : UInt8) : Bool := decide (32 ≤ b.toNat) && decide (b.toNat < 128) && !decide (b = 34) && !decide (b = 92) && !decide (b = 60) && !decide (b = 62) && !decide (b = 38)
def plT (s : Tx) : Prop := ∀ b ∈ s, plB b = true
theorem plB_all : ∀ b : Fin 256, plB (UInt8.ofNat b.val) = true → 32 ≤ b.val ∧ b.val < 128 ∧ b.val ≠ 34 ∧ b.val ≠ 92 ∧ b.val ≠ 60 ∧ b.val ≠ 62 ∧ b.val ≠ 38 := by decide
theorem plB_of {b : UInt8} (h : plB b = true) : 32 ≤ b.toNat ∧ b.toNat < 128 ∧ b.toNat ≠ 34 ∧ b.toNat ≠ 92 ∧ b.toNat ≠ 60 ∧ b.toNat ≠ 62 ∧ b.toNat ≠ 38 := by
  have := plB_all ⟨b.toNat, b.toNat_lt⟩ (by simpa using h)
  exact this
theorem wrapR_all : ∀ k : Fin 128, IntKind.i32.wrap (k.val : Int) = (k.val : Int) := by decide
theorem wrapR {k : Nat} (h : k < 128) : IntKind.i32.wrap (k : Int) = (k : Int) := wrapR_all ⟨k, h⟩
theorem utf8_DecodeStr (I : Imm) (s : Tx) (c : UInt8) (hs : s.length ≤ 1099511627776) (hc : c.toNat < 128) : Pure Proofs.Tryd.prog 53 [str (c :: s)] I fun w J => w = .tuple #[.int .i32 (c.toNat : Int), .int .i64 1] := by
  refine Spec.enter 19 [(0, _)] Proofs.Tryd.func53 rfl Proofs.Tryd.ntmps53 (by simp) rfl ?_
  intro C hCf hR hCI
  repeat (first | refine Run.seq ?_ | refine Run.region ?_ | refine Ops.nil ?_ | refine Ops.lss rfl (by decide) rfl rfl ?_ | refine Ops.neqStr rfl (by decide) rfl rfl ?_ | refine Ops.pure T rfl (by decide) rfl ?_ | refine Ops.indexStr rfl (by decide) (T.undOk rfl) rfl rfl (by first | omega | (simp only [List.length_cons, List.length_nil] ; omega) | (simp; omega)) (by first | omega | (simp only [List.length_cons, List.length_nil] ; omega) | (simp; omega)) ?_)
  rw [decide_eq_false (show ¬ (c :: s = []) by simp)]
  have hd : decide ((((c :: s).getD (Int.toNat 0) 0).toNat : Int) < 128) = true := decide_eq_true (by show (c.toNat : Int) < 128; omega)
  rw [hd]
  repeat (first | refine Run.seq ?_ | refine Run.cond_t rfl ?_)
  refine Run.regionO (D := [some 11, some 12, some 13, some 2, some 3]) [true, true, true, true, true] rfl rfl rfl (fun Z hZ => ?_)
  refine QD.ev T (by decide) rfl rfl ?_
  refine QD.e (Ev.indexT T rfl rfl rfl (by first | omega | (simp only [List.length_cons, List.length_nil] ; omega) | (simp; omega)) (by first | omega | (simp only [List.length_cons, List.length_nil] ; omega) | (simp; omega))) (by decide) rfl ?_
  refine QD.e (Ev.conv (a := (c.toNat : Int)) (r := (c.toNat : Int)) T rfl rfl rfl (wrapR hc)) (by decide) rfl ?_
  refine QD.ev T (by decide) rfl rfl ?_
  refine QD.ev T (by decide) rfl rfl ?_
  refine QD.nil (hZ _ ?_)
  clear hZ Z
  skip
  refine Run.fin (Run.ret2 (by rw [hCf]; exact Proofs.Tryd.func53) Proofs.Tryd.results53 rfl rfl (hR _ _ _ ?_))
  exact ⟨rfl, rfl⟩
/-- a writer -/
def WrSt (w : Nat) (bad begun : Bool) (xs : Tx) (N : Own) : Prop := ∃ v M, N = (w, blk [.bool bad, v, .bool begun] 113) :: M ∧ Buf 5 v xs M
set_option maxHeartbeats 1000000 in
theorem Writer_Str (I : Imm) (w : Nat) (bad begun : Bool) (xs s : Tx) (N : Own) (hW : WrSt w bad begun xs N) (hs : xs.length + s.length ≤ 1099511627776) (hp : plT s) :
    Spec Proofs.Tryd.prog 44 [.pointer (some ⟨w, 0, none⟩), str s] I N fun v J N' => WrSt w bad begun (xs ++ [34] ++ s ++ [34]) N' := by
  obtain ⟨v0, M0, rfl, hB⟩ := hW
  refine Spec.enter 191 [(0, _), (1, _)] Proofs.Tryd.func44 rfl Proofs.Tryd.ntmps44 (by simp) rfl ?_
  intro C hCf hR hCI
  repeat (first | refine Run.seq ?_)
  refine Run.regionP (D := [some 6, some 7, some 8, some 9, some 10, some 11, some 12, some 13, some 14, none]) [true, true, true, true, true] 5 rfl rfl rfl (by simp only [List.drop_succ_cons, List.drop_zero]; rfl) (fun Z hZ => ?_)
  refine QD.ev T (by decide) rfl rfl ?_
  refine QD.ev T (by decide) rfl rfl ?_
  refine QD.ev T (by decide) rfl rfl ?_
  refine QD.ev T (by decide) rfl rfl ?_
  first | refine QD.yv (by decide) rfl (Yv.load 0 T rfl rfl rfl rfl) ?_ | refine QD.yv (by decide) rfl (Yv.load 1 T rfl rfl rfl rfl) ?_ | refine QD.yv (by decide) rfl (Yv.load 2 T rfl rfl rfl rfl) ?_
  refine QD.nil (hZ _ ?_)
  clear hZ Z
  refine Ops.lit T rfl rfl rfl (by decide) rfl (by decide) (by decide) rfl rfl rfl rfl rfl (fun bq => ?_)
  refine Ops.appLit [34] (N := [_]) btB hB rfl (by decide) rfl rfl rfl rfl rfl (by simp; omega) fun v1 M1 hB1 => ?_
  obtain ⟨A1, c1, rfl⟩ := hB1.isSl
  refine Ops.pure T rfl (by decide) rfl ?_
  refine Ops.pure T rfl (by decide) rfl ?_
  first | refine Ops.store 0 rfl rfl rfl rfl rfl (T.sizeOk rfl) rfl (Nat.le_of_ble_eq_true rfl) rfl rfl ?_ | refine Ops.store 1 rfl rfl rfl rfl rfl (T.sizeOk rfl) rfl (Nat.le_of_ble_eq_true rfl) rfl rfl ?_ | refine Ops.store 2 rfl rfl rfl rfl rfl (T.sizeOk rfl) rfl (Nat.le_of_ble_eq_true rfl) rfl rfl ?_
  refine Ops.nil ?_
  repeat (first | refine Run.seq ?_ | refine Run.block ?_)
  refine Run.keep [0, 1] [_, _] rfl ?_
  refine Run.rounds (fun m env L J => ∃ (u z : Tx) (v2 : Value) (M2 : Own), m = z.length ∧ s = u ++ z ∧ Buf 5 v2 (xs ++ [34] ++ u) M2 ∧
    env = [(0, .pointer (some ⟨w, 0, none⟩)), (1, str z)] ∧ L = (w, blk [.bool bad, v2, .bool begun] 113) :: M2 ∧ Le I J) s.length ⟨[], s, _, M1, rfl, rfl, by simpa using hB1, rfl, rfl, Le.refl _⟩ ?_
  rintro m env L J ⟨u, z, v2, M2, rfl, hsz, hB2, rfl, rfl, hle⟩ ih
  have hul : u.length + z.length = s.length := by rw [hsz]; simp
  cases z with
  | nil =>
    rw [List.append_nil] at hsz
    subst hsz
    repeat (first | refine Run.seq ?_)
    refine Run.regionO (D := [some 15, some 16, some 17]) [true, true, true] rfl rfl rfl (fun Z hZ => ?_)
    refine QD.ev T (by decide) rfl rfl ?_
    refine QD.e (Ev.lenS T rfl rfl) (by decide) rfl ?_
    refine QD.e (Ev.gtr rfl rfl) (by decide) rfl ?_
    refine QD.nil (hZ _ ?_)
    clear hZ Z
    repeat (first | refine Run.exit rfl ?_ | refine Run.cond_f rfl ?_)
    refine Run.regionP (D := [some 182, some 183, some 184, some 185, some 186, some 187, some 188, some 189, some 190, none]) [true, true, true, true, true] 5 rfl rfl rfl (by simp only [List.drop_succ_cons, List.drop_zero]; rfl) (fun Z hZ => ?_)
    refine QD.ev T (by decide) rfl rfl ?_
    refine QD.ev T (by decide) rfl rfl ?_
    refine QD.ev T (by decide) rfl rfl ?_
    refine QD.ev T (by decide) rfl rfl ?_
    first | refine QD.yv (by decide) rfl (Yv.load 0 T rfl rfl rfl rfl) ?_ | refine QD.yv (by decide) rfl (Yv.load 1 T rfl rfl rfl rfl) ?_ | refine QD.yv (by decide) rfl (Yv.load 2 T rfl rfl rfl rfl) ?_
    refine QD.nil (hZ _ ?_)
    clear hZ Z
    refine Ops.lit T rfl rfl rfl (by decide) rfl (by decide) (by decide) rfl rfl rfl rfl rfl (fun bq => ?_)
    refine Ops.appLit [34] (N := [_]) btB hB2 rfl (by decide) rfl rfl rfl rfl rfl (by simp; omega) fun v3 M3 hB3 => ?_
    obtain ⟨A3, c3, rfl⟩ := hB3.isSl
    refine Ops.pure T rfl (by decide) rfl ?_
    refine Ops.pure T rfl (by decide) rfl ?_
    first | refine Ops.store 0 rfl rfl rfl rfl rfl (T.sizeOk rfl) rfl (Nat.le_of_ble_eq_true rfl) rfl rfl ?_ | refine Ops.store 1 rfl rfl rfl rfl rfl (T.sizeOk rfl) rfl (Nat.le_of_ble_eq_true rfl) rfl rfl ?_ | refine Ops.store 2 rfl rfl rfl rfl rfl (T.sizeOk rfl) rfl (Nat.le_of_ble_eq_true rfl) rfl rfl ?_
    refine Ops.nil ?_
    skip
    refine Run.end0 (by rw [hCf]; exact Proofs.Tryd.func44) Proofs.Tryd.results44 (hR _ _ _ ?_)
    exact ⟨_, M3, rfl, hB3⟩
  | cons c z =>
    have hc := plB_of (hp c (by rw [hsz]; simp))
    repeat (first | refine Run.seq ?_)
    refine Run.regionO (D := [some 15, some 16, some 17]) [true, true, true] rfl rfl rfl (fun Z hZ => ?_)
    refine QD.ev T (by decide) rfl rfl ?_
    refine QD.e (Ev.lenS T rfl rfl) (by decide) rfl ?_
    refine QD.e (Ev.gtr rfl rfl) (by decide) rfl ?_
    refine QD.nil (hZ _ ?_)
    clear hZ Z
    rw [show decide ((0 : Int) < ((c :: z).length : Int)) = true from decide_eq_true (by simp only [List.length_cons]; omega)]
    repeat (first | refine Run.seq ?_ | refine Run.skip ?_ | refine Run.block ?_ | refine Run.cond_t rfl ?_)
    refine Run.regionP (D := [some 19, some 20, some 18, some 21, some 22, some 4, some 5]) [true] 1 rfl rfl rfl (by simp only [List.drop_succ_cons, List.drop_zero]; rfl) (fun Z hZ => ?_)
    refine QD.ev T (by decide) rfl rfl ?_
    refine QD.nil (hZ _ ?_)
    clear hZ Z
    refine Ops.call ((utf8_DecodeStr J z c (by simp at hul; omega) hc.2.1)) rfl (by decide) Proofs.Tryd.call53 rfl ?_
    rintro _ J1 l1 rfl
    refine Ops.pure T rfl (by decide) rfl ?_
    refine Ops.pure T rfl (by decide) rfl ?_
    refine Ops.pure T rfl (by decide) rfl ?_
    refine Ops.pure T rfl (by decide) rfl ?_
    refine Ops.pure T rfl (by decide) rfl ?_
    refine Ops.nil ?_
    repeat (first | refine Run.seq ?_ | refine Run.block ?_)
    obtain ⟨p1, p2, p3, p4, p5, p6, p7⟩ := hc
    have e : ∀ n : Int, (c.toNat : Int) ≠ n → decide ((c.toNat : Int) = n) = false := fun n h => decide_eq_false h
    repeat (first | refine Run.region ?_ | refine Ops.eql rfl (by decide) rfl rfl ?_ | refine Ops.pure T rfl (by decide) rfl ?_)
    rw [e 34 (by omega)]
    repeat (first | refine Ops.nil ?_ | refine Ops.eql rfl (by decide) rfl rfl ?_ | refine Ops.pure T rfl (by decide) rfl ?_)
    rw [e 92 (by omega)]
    repeat (first | refine Run.seq ?_ | refine Run.region ?_ | refine Ops.nil ?_ | refine Run.cond_f rfl ?_ | refine Ops.eql rfl (by decide) rfl rfl ?_ | refine Ops.pure T rfl (by decide) rfl ?_)
    rw [e 8 (by omega)]
    repeat (first | refine Run.seq ?_ | refine Run.region ?_ | refine Ops.nil ?_ | refine Run.cond_f rfl ?_ | refine Ops.eql rfl (by decide) rfl rfl ?_ | refine Ops.pure T rfl (by decide) rfl ?_)
    rw [e 12 (by omega)]
    repeat (first | refine Run.seq ?_ | refine Run.region ?_ | refine Ops.nil ?_ | refine Run.cond_f rfl ?_ | refine Ops.eql rfl (by decide) rfl rfl ?_ | refine Ops.pure T rfl (by decide) rfl ?_)
    rw [e 10 (by omega)]
    repeat (first | refine Run.seq ?_ | refine Run.region ?_ | refine Ops.nil ?_ | refine Run.cond_f rfl ?_ | refine Ops.eql rfl (by decide) rfl rfl ?_ | refine Ops.pure T rfl (by decide) rfl ?_)
    rw [e 13 (by omega)]
    repeat (first | refine Run.seq ?_ | refine Run.region ?_ | refine Ops.nil ?_ | refine Run.cond_f rfl ?_ | refine Ops.eql rfl (by decide) rfl rfl ?_ | refine Ops.pure T rfl (by decide) rfl ?_)
    rw [e 9 (by omega)]
    repeat (first | refine Run.seq ?_ | refine Run.region ?_ | refine Run.cond_f rfl ?_ | refine Ops.lss rfl (by decide) rfl rfl ?_ | refine Ops.pure T rfl (by decide) rfl ?_)
    rw [show decide ((c.toNat : Int) < 32) = false from decide_eq_false (by omega)]
    repeat (first | refine Ops.eql rfl (by decide) rfl rfl ?_ | refine Ops.pure T rfl (by decide) rfl ?_)
    rw [e 60 (by omega)]
    repeat (first | refine Ops.eql rfl (by decide) rfl rfl ?_ | refine Ops.pure T rfl (by decide) rfl ?_)
    rw [e 62 (by omega)]
    repeat (first | refine Ops.nil ?_ | refine Ops.eql rfl (by decide) rfl rfl ?_ | refine Ops.pure T rfl (by decide) rfl ?_)
    rw [e 38 (by omega)]
    repeat (first | refine Run.seq ?_ | refine Run.region ?_ | refine Run.cond_f rfl ?_ | refine Ops.eql rfl (by decide) rfl rfl ?_ | refine Ops.pure T rfl (by decide) rfl ?_)
    rw [e 65533 (by omega)]
    repeat (first | refine Run.seq ?_ | refine Run.region ?_ | refine Ops.nil ?_ | refine Run.cond_f rfl ?_ | refine Ops.not rfl (by decide) ?_ | refine Ops.eql rfl (by decide) rfl rfl ?_ | refine Ops.pure T rfl (by decide) rfl ?_)
    rw [e 8232 (by omega)]
    repeat (first | refine Ops.nil ?_ | refine Ops.eql rfl (by decide) rfl rfl ?_ | refine Ops.pure T rfl (by decide) rfl ?_)
    rw [e 8233 (by omega)]
    repeat (first | refine Run.cond_f rfl ?_)
    refine Run.regionAny (fun _ => True) (bl 12 0) (by kernel_rfl) (by kernel_rfl) ?_
    refine RAny.tk 0 (bl 12 1) rfl (by kernel_rfl) (by decide) (fun _ _ => trivial) (Yld.eval T rfl rfl) ?_
    refine RAny.tk 1 (bl 12 3) rfl (by kernel_rfl) (by decide) (fun _ _ => trivial) (Yld.eval T rfl rfl) ?_
    refine RAny.tk 2 (bl 12 7) rfl (by kernel_rfl) (by decide) (fun _ _ => trivial) (Yld.eval T rfl rfl) ?_
    refine RAny.tk 3 (bl 12 15) rfl (by kernel_rfl) (by decide) (fun _ _ => trivial) (Yld.eval T rfl rfl) ?_
    refine RAny.tk 5 (bl 12 47) rfl (by kernel_rfl) (by decide) (fun _ _ => trivial) (Yld.eval T rfl rfl) ?_
    refine RAny.tk 6 (bl 12 111) rfl (by kernel_rfl) (by decide) (fun _ _ => trivial) (Yld.eval T rfl rfl) ?_
    refine RAny.tk 7 (bl 12 239) rfl (by kernel_rfl) (by decide) (fun _ _ => trivial) (Yld.ev (Ev.cutSHi T rfl rfl rfl (by first | omega | (simp only [List.length_cons, List.length_nil] ; omega) | (simp; omega)) (by first | omega | (simp only [List.length_cons, List.length_nil] ; omega) | (simp; omega))) rfl) ?_
    refine RAny.on 4 (bl 12 255) rfl (by kernel_rfl) rfl (by decide) (Eff.yv (Yv.load 0 T rfl rfl rfl rfl) ⟨fun _ _ => trivial, ?_⟩)
    refine RAny.on 8 (bl 12 511) rfl (by kernel_rfl) rfl (by decide) (Eff.appBuf (M := M2) (N := [(w, _)]) (ys := [c]) btB rfl rfl (perm_of_count fun x => by simp only [List.count_append, List.count_cons, List.count_nil, Nat.add_zero, Nat.zero_add] <;> ac_rfl) hB2 (fun W hi => src_str rfl W) (by simp; omega) fun v3 M3 hB3 => ⟨fun _ _ => trivial, ?_⟩)
    refine RAny.perm (L' := (w, _) :: M3) (perm_of_count fun x => by simp only [List.count_append, List.count_cons, List.count_nil, Nat.add_zero, Nat.zero_add] <;> ac_rfl) ?_
    rw [List.append_assoc (xs ++ [34]) u [c]] at hB3
    obtain ⟨A3, c3, rfl⟩ := hB3.isSl
    refine RAny.tk 9 (bl 12 1023) rfl (by kernel_rfl) (by decide) (fun _ _ => trivial) (Yld.eval T rfl rfl) ?_
    refine RAny.tk 10 (bl 12 2047) rfl (by kernel_rfl) (by decide) (fun _ _ => trivial) (Yld.eval T rfl rfl) ?_
    refine RAny.os 11 (bl 12 4095) rfl (by kernel_rfl) rfl (Eff.store 0 rfl rfl rfl rfl (T.sizeOk rfl) rfl (Nat.le_of_ble_eq_true rfl) rfl rfl ⟨fun _ _ => trivial, ?_⟩)
    refine RAny.done _ (by kernel_rfl) ?_
    repeat (first | refine Run.inBlock ?_)
    refine Run.regionO (D := [some 179, some 180, some 181, some 1]) [true, true, true, true] rfl rfl rfl (fun Z hZ => ?_)
    refine QD.ev T (by decide) rfl rfl ?_
    refine QD.ev T (by decide) rfl rfl ?_
    refine QD.e (Ev.cutSLo T rfl rfl rfl (by first | omega | (simp only [List.length_cons, List.length_nil] ; omega) | (simp; omega)) (by first | omega | (simp only [List.length_cons, List.length_nil] ; omega) | (simp; omega))) (by decide) rfl ?_
    refine QD.ev T (by decide) rfl rfl ?_
    refine QD.nil (hZ _ ?_)
    clear hZ Z
    repeat (first | refine Run.inBlock ?_)
    refine Run.keep [0, 1] [_, _] rfl ?_
    exact ih z.length _ _ _ (by simp) ⟨u ++ [c], z, _, M3, rfl, by rw [hsz]; simp, hB3, rfl, rfl, hle.trans l1⟩
theorem Run.keepB {P : Program} {n : Nat} {C : Cx} {k : List Item} {env : Env} {I : Imm} {L M N : Own} {e : TypeId} {v : Value} {xs : Tx} (hG : Buf e v xs M) (hL : L.Perm (M ++ N)) (h : ∀ J, Le I J → Sl tU8 J v xs → Run P n C k env N J) : Run P n C k env L I := by
  rcases id hG with ⟨_, _, rfl⟩ | ⟨b, pre, post, cap, _, rfl, _⟩
  · exact Run.perm hL (h I (Le.refl _) (hG.sl (fun _ _ h => by cases h)))
  · exact Run.perm hL (Run.freeze fun J hle hJ => h J hle (hG.sl (fun b o hm => by cases List.mem_singleton.1 hm; exact hJ)))
theorem zz_Quoted (I : Imm) (s : Tx) (hs : s.length ≤ 1099511627000) (hp : plT s) : Pure Proofs.Tryd.prog 35 [str s] I fun v J => Sl tU8 J v ([34] ++ s ++ [34]) := by
  refine Spec.enter 13 [(0, _)] Proofs.Tryd.func35 rfl Proofs.Tryd.ntmps35 (by simp) rfl ?_
  intro C hCf hR hCI
  repeat (first | refine Run.seq ?_)
  refine Run.regionO (D := [some 2]) [true] rfl rfl rfl (fun Z hZ => ?_)
  refine QD.ev T (by decide) rfl rfl ?_
  refine QD.nil (hZ _ ?_)
  clear hZ Z
  repeat (first | refine Run.seq ?_)
  refine Run.regionP (D := [some 4, some 5, some 3]) [true] 1 rfl rfl rfl (by simp only [List.drop_succ_cons, List.drop_zero]; rfl) (fun Z hZ => ?_)
  refine QD.e (Ev.buildS bd113 rfl rfl) (by decide) rfl ?_
  refine QD.nil (hZ _ ?_)
  clear hZ Z
  refine Ops.box rfl (by decide) rfl rfl (fun w => ?_)
  refine Ops.pure T rfl (by decide) rfl ?_
  refine Ops.nil ?_
  repeat (first | refine Run.seq ?_)
  refine Run.regionP (D := [some 6, some 7, some 8]) [true, true] 2 rfl rfl rfl (by simp only [List.drop_succ_cons, List.drop_zero]; rfl) (fun Z hZ => ?_)
  refine QD.ev T (by decide) rfl rfl ?_
  refine QD.ev T (by decide) rfl rfl ?_
  refine QD.nil (hZ _ ?_)
  clear hZ Z
  refine Ops.callP (N := []) ((Writer_Str I w false false [] s [(w, _)] ⟨_, [], rfl, Buf.nil _⟩ (by simp; omega) hp)) (.refl _) rfl (by decide) Proofs.Tryd.call44 rfl ?_
  rintro v J1 N1 l1 ⟨vo, Mo, rfl, hBo⟩
  refine Ops.nil ?_
  repeat (first | refine Run.seq ?_)
  refine Run.regionO (D := [some 9, some 10, some 11, some 12, some 2]) [true, true, true, true, true] rfl rfl rfl (fun Z hZ => ?_)
  refine QD.ev T (by decide) rfl rfl ?_
  refine QD.ev T (by decide) rfl rfl ?_
  refine QD.ev T (by decide) rfl rfl ?_
  first | refine QD.yv (by decide) rfl (Yv.load 0 T rfl rfl rfl rfl) ?_ | refine QD.yv (by decide) rfl (Yv.load 1 T rfl rfl rfl rfl) ?_ | refine QD.yv (by decide) rfl (Yv.load 2 T rfl rfl rfl rfl) ?_
  refine QD.ev T (by decide) rfl rfl ?_
  refine QD.nil (hZ _ ?_)
  clear hZ Z
  skip
  refine Run.keepB (M := Mo) (N := [(w, _)]) hBo (perm_of_count fun x => by simp only [List.count_append, List.count_cons, List.count_nil, Nat.add_zero, Nat.zero_add] <;> ac_rfl) fun J2 l2 hv => ?_
  refine Run.fin (Run.ret1 (by rw [hCf]; exact Proofs.Tryd.func35) Proofs.Tryd.results35 rfl (hR _ _ _ ?_))
  exact ⟨rfl, by simpa using hv⟩
theorem v1_MarshalJSON (I : Imm) (a h : Tx) (ha : a.length ≤ 1048576) (hh : h.length ≤ 1048576) (hp : plT (hText a h)) : Pure Proofs.Tryd.prog 26 [hashV a h] I fun w J => ∃ v, w = .tuple #[v, .nilIface] ∧ Sl tU8 J v ([34] ++ hText a h ++ [34]) := by
  refine Spec.enter 7 [(0, _)] Proofs.Tryd.func26 rfl Proofs.Tryd.ntmps26 (by simp) rfl ?_
  intro C hCf hR hCI
  repeat (first | refine Run.seq ?_)
  refine Run.region ?_
  refine Ops.box rfl (by decide) rfl rfl (fun b => ?_)
  refine Ops.pure T rfl (by decide) rfl ?_
  refine Ops.pure T rfl (by decide) rfl ?_
  refine Ops.nil ?_
  repeat (first | refine Run.seq ?_)
  refine Run.regionP (D := [some 4, some 5, some 6, some 2, some 3]) [true] 1 rfl rfl rfl (by simp only [List.drop_succ_cons, List.drop_zero]; rfl) (fun Z hZ => ?_)
  first | refine QD.yv (by decide) rfl (Yv.loadN 0 T rfl rfl rfl rfl rfl rfl) ?_ | refine QD.yv (by decide) rfl (Yv.loadN 1 T rfl rfl rfl rfl rfl rfl) ?_ | refine QD.yv (by decide) rfl (Yv.loadN 2 T rfl rfl rfl rfl rfl rfl) ?_
  refine QD.nil (hZ _ ?_)
  clear hZ Z
  refine Ops.call ((v1_String I a h (by omega) (by omega))) rfl (by decide) Proofs.Tryd.call27 rfl ?_
  rintro _ J1 l1 rfl
  refine Ops.call ((zz_Quoted J1 _ (by simp; omega) hp)) rfl (by decide) Proofs.Tryd.call35 rfl ?_
  rintro v J2 l2 hv
  refine Ops.pure T rfl (by decide) rfl ?_
  refine Ops.pure T rfl (by decide) rfl ?_
  refine Ops.nil ?_
  skip
  refine Run.fin (Run.ret2 (by rw [hCf]; exact Proofs.Tryd.func26) Proofs.Tryd.results26 rfl rfl (hR _ _ _ ?_))
  exact ⟨rfl, v, rfl, hv⟩
abbrev hJson (a h : Tx) : Tx := [34] ++ hText a h ++ [34]
theorem impl_HashText (I : Imm) (a h : Tx) (ha : a.length ≤ 1048576) (hh : h.length ≤ 1048576) (hp : plT (hText a h)) : Pure Proofs.Tryd.prog 11 [hashV a h] I fun w J => w = .tuple #[str (hText a h), str (hText a h), str (hJson a h)] := by
  refine Spec.enter 28 [(0, _)] Proofs.Tryd.func11 rfl Proofs.Tryd.ntmps11 (by simp) rfl ?_
  intro C hCf hR hCI
  repeat (first | refine Run.seq ?_)
  refine Run.region ?_
  refine Ops.box rfl (by decide) rfl rfl (fun b => ?_)
  refine Ops.pure T rfl (by decide) rfl ?_
  refine Ops.pure T rfl (by decide) rfl ?_
  refine Ops.pure T rfl (by decide) rfl ?_
  refine Ops.nil ?_
  repeat (first | refine Run.seq ?_)
  refine Run.regionP (D := [some 10, some 11, some 5, none]) [true] 1 rfl rfl rfl (by simp only [List.drop_succ_cons, List.drop_zero]; rfl) (fun Z hZ => ?_)
  first | refine QD.yv (by decide) rfl (Yv.loadN 0 T rfl rfl rfl rfl rfl rfl) ?_ | refine QD.yv (by decide) rfl (Yv.loadN 1 T rfl rfl rfl rfl rfl rfl) ?_ | refine QD.yv (by decide) rfl (Yv.loadN 2 T rfl rfl rfl rfl rfl rfl) ?_
  refine QD.nil (hZ _ ?_)
  clear hZ Z
  refine Ops.call ((Hash_to I a h)) rfl (by decide) Proofs.Tryd.call24 rfl ?_
  rintro _ J1 l1 rfl
  refine Ops.alloc rfl (by decide) (T.zeroOk rfl) rfl (fun b5 => ?_)
  first | refine Ops.store 0 rfl rfl rfl rfl rfl (T.sizeOk rfl) rfl (Nat.le_of_ble_eq_true rfl) rfl rfl ?_ | refine Ops.store 1 rfl rfl rfl rfl rfl (T.sizeOk rfl) rfl (Nat.le_of_ble_eq_true rfl) rfl rfl ?_ | refine Ops.store 2 rfl rfl rfl rfl rfl (T.sizeOk rfl) rfl (Nat.le_of_ble_eq_true rfl) rfl rfl ?_
  refine Ops.nil ?_
  repeat (first | refine Run.seq ?_)
  refine Run.regionP (D := [some 13, some 14, some 12, some 15, some 16, some 6, some 7]) [true] 1 rfl rfl rfl (by simp only [List.drop_succ_cons, List.drop_zero]; rfl) (fun Z hZ => ?_)
  first | refine QD.yv (by decide) rfl (Yv.loadN 0 T rfl rfl rfl rfl rfl rfl) ?_ | refine QD.yv (by decide) rfl (Yv.loadN 1 T rfl rfl rfl rfl rfl rfl) ?_ | refine QD.yv (by decide) rfl (Yv.loadN 2 T rfl rfl rfl rfl rfl rfl) ?_
  refine QD.nil (hZ _ ?_)
  clear hZ Z
  refine Ops.call ((v1_MarshalText J1 a h (by omega) (by omega))) rfl (by decide) Proofs.Tryd.call25 rfl ?_
  rintro _ J2 l2 ⟨v2, rfl, hv2⟩
  refine Ops.pure T rfl (by decide) rfl ?_
  refine Ops.pure T rfl (by decide) rfl ?_
  refine Ops.pure T rfl (by decide) rfl ?_
  refine Ops.pure T rfl (by decide) rfl ?_
  refine Ops.pure T rfl (by decide) rfl ?_
  refine Ops.nil ?_
  repeat (first | refine Run.seq ?_)
  refine Run.regionP (D := [some 18, some 19, some 17, some 20, some 21, some 8, some 9]) [true] 1 rfl rfl rfl (by simp only [List.drop_succ_cons, List.drop_zero]; rfl) (fun Z hZ => ?_)
  first | refine QD.yv (by decide) rfl (Yv.loadN 0 T rfl rfl rfl rfl rfl rfl) ?_ | refine QD.yv (by decide) rfl (Yv.loadN 1 T rfl rfl rfl rfl rfl rfl) ?_ | refine QD.yv (by decide) rfl (Yv.loadN 2 T rfl rfl rfl rfl rfl rfl) ?_
  refine QD.nil (hZ _ ?_)
  clear hZ Z
  refine Ops.call ((v1_MarshalJSON J2 a h ha hh hp)) rfl (by decide) Proofs.Tryd.call26 rfl ?_
  rintro _ J3 l3 ⟨v3, rfl, hv3⟩
  refine Ops.pure T rfl (by decide) rfl ?_
  refine Ops.pure T rfl (by decide) rfl ?_
  refine Ops.pure T rfl (by decide) rfl ?_
  refine Ops.pure T rfl (by decide) rfl ?_
  refine Ops.pure T rfl (by decide) rfl ?_
  refine Ops.nil ?_
  repeat (first | refine Run.seq ?_)
  refine Run.regionQ (D := [some 22, some 23, some 24, some 25, some 26, some 27, some 2, some 3, some 4]) [true, true, true, true, true, true, true, true, true] (bl 9 511) (by kernel_rfl) (by kernel_rfl) (by kernel_rfl) (by kernel_rfl) rfl (fun Z hZ => ?_)
  first | refine QD.yv (by decide) rfl (Yv.loadN 0 T rfl rfl rfl rfl rfl rfl) ?_ | refine QD.yv (by decide) rfl (Yv.loadN 1 T rfl rfl rfl rfl rfl rfl) ?_ | refine QD.yv (by decide) rfl (Yv.loadN 2 T rfl rfl rfl rfl rfl rfl) ?_
  refine QD.call (v1_String J3 a h (by omega) (by omega)) (by decide) rfl Proofs.Tryd.call27 rfl ?_
  refine QD.ev T (by decide) rfl rfl ?_
  refine QD.yv (by decide) rfl (Yv.bytesSl T (hv2.mono l3) rfl rfl rfl rfl) ?_
  refine QD.ev T (by decide) rfl rfl ?_
  refine QD.yv (by decide) rfl (Yv.bytesSl T hv3 rfl rfl rfl rfl) ?_
  refine QD.ev T (by decide) rfl rfl ?_
  refine QD.ev T (by decide) rfl rfl ?_
  refine QD.ev T (by decide) rfl rfl ?_
  refine QD.nil (hZ _ ?_)
  clear hZ Z
  skip
  refine Run.fin (Run.ret3 (by rw [hCf]; exact Proofs.Tryd.func11) Proofs.Tryd.results11 rfl rfl rfl (hR _ _ _ ?_))
  exact ⟨rfl, rfl⟩
theorem hashAwake (I : Imm) : Pure Proofs.Tryd.prog 8 [] I fun w J => w = .bool true := by
  refine Spec.enter 12 [] Proofs.Tryd.func8 rfl Proofs.Tryd.ntmps8 (by simp) rfl ?_
  intro C hCf hR hCI
  repeat (first | refine Run.seq ?_)
  refine Run.regionO (D := [some 0]) [true] rfl rfl rfl (fun Z hZ => ?_)
  refine QD.ev T (by decide) rfl rfl ?_
  refine QD.nil (hZ _ ?_)
  clear hZ Z
  repeat (first | refine Run.seq ?_)
  refine Run.regionP (D := [some 5, some 6, some 4, some 7, some 8, some 9, some 1, some 2, some 3]) [true] 1 rfl rfl rfl (by simp only [List.drop_succ_cons, List.drop_zero]; rfl) (fun Z hZ => ?_)
  refine QD.e (Ev.buildS bd24 rfl rfl) (by decide) rfl ?_
  refine QD.nil (hZ _ ?_)
  clear hZ Z
  refine Ops.call ((impl_HashText I [115, 104, 97, 50, 53, 54] [97, 98] (by decide) (by decide) (by unfold plT; decide))) rfl (by decide) Proofs.Tryd.call11 rfl ?_
  rintro _ J1 l1 rfl
  refine Ops.pure T rfl (by decide) rfl ?_
  refine Ops.pure T rfl (by decide) rfl ?_
  refine Ops.pure T rfl (by decide) rfl ?_
  refine Ops.pure T rfl (by decide) rfl ?_
  refine Ops.pure T rfl (by decide) rfl ?_
  refine Ops.pure T rfl (by decide) rfl ?_
  refine Ops.pure T rfl (by decide) rfl ?_
  refine Ops.nil ?_
  repeat (first | refine Run.seq ?_)
  refine Run.regionO (D := [some 10, some 11, some 0]) [true, true, true] rfl rfl rfl (fun Z hZ => ?_)
  refine QD.ev T (by decide) rfl rfl ?_
  refine QD.e (Ev.eqlS rfl rfl) (by decide) rfl ?_
  refine QD.ev T (by decide) rfl rfl ?_
  refine QD.nil (hZ _ ?_)
  clear hZ Z
  skip
  refine Run.fin (Run.ret1 (by rw [hCf]; exact Proofs.Tryd.func8) Proofs.Tryd.results8 rfl (hR _ _ _ ?_))
  exact ⟨rfl, rfl⟩
end Go.V
/-
  Plain texts read from JSON.
-/
namespace Go.V
open Go.RowKit
set_option linter.unusedVariables false
set_option linter.unusedSimpArgs false
set_option maxRecDepth 10000
attribute [local irreducible] Run Ops QD
/-- bytes that lie in a frozen block -/
structure Rd (I : Imm) (v : Value) (xs : Tx) (db off c : Nat) : Prop where
  eq : v = .slice (some ⟨db, off, none⟩) xs.length c
  cap : xs.length ≤ c
  at' : ∀ i, i < xs.length → At I db (off + ((i : Int)).toNat * 1) [.int .u8 ((xs.getD i 0).toNat : Int)]
theorem Rd.mono {I J : Imm} {v : Value} {xs : Tx} {db off c : Nat} (h : Rd I v xs db off c) (hle : Le I J) : Rd J v xs db off c := ⟨h.eq, h.cap, fun i hi => (h.at' i hi).mono hle⟩
abbrev rdr (v : Value) (i d : Nat) : Obj := blk [v, .int .i64 i, .int .i64 d] 102
set_option maxHeartbeats 1000000 in
theorem reader_blankQ (I : Imm) (xs : Tx) (v : Value) (db off c r i d : Nat) (hR0 : Rd I v xs db off c) (hi : i < xs.length) (hq : xs.getD i 0 = 34) :
    Spec Proofs.Tryd.prog 43 [.pointer (some ⟨r, 0, none⟩)] I [(r, rdr v i d)] fun w J M => M = [(r, rdr v i d)] ∧ J = I := by
  have hA := hR0.at' i hi
  rw [hq] at hA
  obtain rfl := hR0.eq
  have hcap := hR0.cap
  refine Spec.enter 71 [(0, _)] Proofs.Tryd.func43 rfl Proofs.Tryd.ntmps43 (by simp) rfl ?_
  intro C hCf hR hCI
  repeat (first | refine Run.block ?_)
  refine Run.loop ?_
  repeat (first | refine Run.seq ?_)
  rw [show ((i : Int)).toNat = i by omega] at hA
  have hA' : At I db (off + ((i : Int)).toNat * 1) [.int .u8 34] := by simpa using hA
  have hi0 : (0 : Int) ≤ (i : Int) := Int.natCast_nonneg _
  have hi2 : (i : Int) < (xs.length : Int) := by omega
  refine Run.regionQ (D := [some 2, some 3, some 4, some 5, some 6, some 7, some 8, some 9, some 10, some 11, some 12, some 13, some 14, some 15, some 16, some 17, some 18, some 19, some 20, some 21, some 22, some 23, some 24, some 25, some 26, some 27, some 28, some 29, some 30, some 31, some 32, some 33, some 34, some 35, some 36, some 37, some 38, some 39, some 40, some 41, some 42, some 43, some 44, some 45, some 46, some 47, some 48, some 49, some 50, some 51, some 52, some 53, some 54, some 55, some 56, some 57, some 58, some 59, some 60, some 61, some 62, some 63]) [true, true, true, true, true, true, true, true, true, true, true, true, true, true, true, true, true, true, true, true, true, true, true, true, true, true, true, true, true, true, true, true, true, true, true, true, true, true, true, true, true, true, true, true, true, true, true, true, true, true, true, true, true, true, true, true, true, true, true, true, true, true] (bl 62 4611686018427387903) (by kernel_rfl) (by kernel_rfl) (by kernel_rfl) (by kernel_rfl) rfl (fun Z hZ => ?_)
  refine QD.ev T (by decide) rfl rfl ?_
  refine QD.ev T (by decide) rfl rfl ?_
  refine QD.ev T (by decide) rfl rfl ?_
  first | refine QD.yv (by decide) rfl (Yv.load 0 T rfl rfl rfl rfl) ?_ | refine QD.yv (by decide) rfl (Yv.load 1 T rfl rfl rfl rfl) ?_ | refine QD.yv (by decide) rfl (Yv.load 2 T rfl rfl rfl rfl) ?_ | refine QD.yv (by decide) rfl (Yv.loadI T hA' rfl rfl) ?_
  refine QD.ev T (by decide) rfl rfl ?_
  refine QD.ev T (by decide) rfl rfl ?_
  refine QD.ev T (by decide) rfl rfl ?_
  first | refine QD.yv (by decide) rfl (Yv.load 0 T rfl rfl rfl rfl) ?_ | refine QD.yv (by decide) rfl (Yv.load 1 T rfl rfl rfl rfl) ?_ | refine QD.yv (by decide) rfl (Yv.load 2 T rfl rfl rfl rfl) ?_ | refine QD.yv (by decide) rfl (Yv.loadI T hA' rfl rfl) ?_
  refine QD.ev T (by decide) rfl rfl ?_
  refine QD.e ((Ev.lss rfl rfl).as (show _ = Value.bool true from congrArg Value.bool (decide_eq_true hi2))) (by decide) rfl ?_
  refine QD.ev T (by decide) rfl rfl ?_
  first | refine QD.ev T (by decide) rfl rfl ?_ | refine QD.off (by decide) rfl ?_
  first | refine QD.ev T (by decide) rfl rfl ?_ | refine QD.off (by decide) rfl ?_
  first | refine QD.ev T (by decide) rfl rfl ?_ | refine QD.off (by decide) rfl ?_
  first | refine QD.yv (by decide) rfl (Yv.load 0 T rfl rfl rfl rfl) ?_ | refine QD.yv (by decide) rfl (Yv.load 1 T rfl rfl rfl rfl) ?_ | refine QD.yv (by decide) rfl (Yv.load 2 T rfl rfl rfl rfl) ?_ | refine QD.yv (by decide) rfl (Yv.loadI T hA' rfl rfl) ?_ | refine QD.off (by decide) rfl ?_
  first | refine QD.ev T (by decide) rfl rfl ?_ | refine QD.off (by decide) rfl ?_
  first | refine QD.ev T (by decide) rfl rfl ?_ | refine QD.off (by decide) rfl ?_
  first | refine QD.ev T (by decide) rfl rfl ?_ | refine QD.off (by decide) rfl ?_
  first | refine QD.yv (by decide) rfl (Yv.load 0 T rfl rfl rfl rfl) ?_ | refine QD.yv (by decide) rfl (Yv.load 1 T rfl rfl rfl rfl) ?_ | refine QD.yv (by decide) rfl (Yv.load 2 T rfl rfl rfl rfl) ?_ | refine QD.yv (by decide) rfl (Yv.loadI T hA' rfl rfl) ?_ | refine QD.off (by decide) rfl ?_
  first | refine QD.e (Ev.indexS T rfl rfl rfl rfl (by first | omega | (simp only [List.length_cons, List.length_nil] ; omega) | (simp; omega)) (by first | omega | (simp only [List.length_cons, List.length_nil] ; omega) | (simp; omega))) (by decide) rfl ?_ | refine QD.off (by decide) rfl ?_
  first | refine QD.yv (by decide) rfl (Yv.load 0 T rfl rfl rfl rfl) ?_ | refine QD.yv (by decide) rfl (Yv.load 1 T rfl rfl rfl rfl) ?_ | refine QD.yv (by decide) rfl (Yv.load 2 T rfl rfl rfl rfl) ?_ | refine QD.yv (by decide) rfl (Yv.loadI T hA' rfl rfl) ?_ | refine QD.off (by decide) rfl ?_
  first | refine QD.e (Ev.eqlI rfl rfl) (by decide) rfl ?_ | refine QD.off (by decide) rfl ?_
  first | refine QD.ev T (by decide) rfl rfl ?_ | refine QD.off (by decide) rfl ?_
  first | refine QD.ev T (by decide) rfl rfl ?_ | refine QD.off (by decide) rfl ?_
  first | refine QD.ev T (by decide) rfl rfl ?_ | refine QD.off (by decide) rfl ?_
  first | refine QD.ev T (by decide) rfl rfl ?_ | refine QD.off (by decide) rfl ?_
  first | refine QD.yv (by decide) rfl (Yv.load 0 T rfl rfl rfl rfl) ?_ | refine QD.yv (by decide) rfl (Yv.load 1 T rfl rfl rfl rfl) ?_ | refine QD.yv (by decide) rfl (Yv.load 2 T rfl rfl rfl rfl) ?_ | refine QD.yv (by decide) rfl (Yv.loadI T hA' rfl rfl) ?_ | refine QD.off (by decide) rfl ?_
  first | refine QD.ev T (by decide) rfl rfl ?_ | refine QD.off (by decide) rfl ?_
  first | refine QD.ev T (by decide) rfl rfl ?_ | refine QD.off (by decide) rfl ?_
  first | refine QD.ev T (by decide) rfl rfl ?_ | refine QD.off (by decide) rfl ?_
  first | refine QD.yv (by decide) rfl (Yv.load 0 T rfl rfl rfl rfl) ?_ | refine QD.yv (by decide) rfl (Yv.load 1 T rfl rfl rfl rfl) ?_ | refine QD.yv (by decide) rfl (Yv.load 2 T rfl rfl rfl rfl) ?_ | refine QD.yv (by decide) rfl (Yv.loadI T hA' rfl rfl) ?_ | refine QD.off (by decide) rfl ?_
  first | refine QD.e (Ev.indexS T rfl rfl rfl rfl (by first | omega | (simp only [List.length_cons, List.length_nil] ; omega) | (simp; omega)) (by first | omega | (simp only [List.length_cons, List.length_nil] ; omega) | (simp; omega))) (by decide) rfl ?_ | refine QD.off (by decide) rfl ?_
  first | refine QD.yv (by decide) rfl (Yv.load 0 T rfl rfl rfl rfl) ?_ | refine QD.yv (by decide) rfl (Yv.load 1 T rfl rfl rfl rfl) ?_ | refine QD.yv (by decide) rfl (Yv.load 2 T rfl rfl rfl rfl) ?_ | refine QD.yv (by decide) rfl (Yv.loadI T hA' rfl rfl) ?_ | refine QD.off (by decide) rfl ?_
  first | refine QD.e (Ev.eqlI rfl rfl) (by decide) rfl ?_ | refine QD.off (by decide) rfl ?_
  first | refine QD.ev T (by decide) rfl rfl ?_ | refine QD.off (by decide) rfl ?_
  first | refine QD.ev T (by decide) rfl rfl ?_ | refine QD.off (by decide) rfl ?_
  first | refine QD.ev T (by decide) rfl rfl ?_ | refine QD.off (by decide) rfl ?_
  first | refine QD.ev T (by decide) rfl rfl ?_ | refine QD.off (by decide) rfl ?_
  first | refine QD.ev T (by decide) rfl rfl ?_ | refine QD.off (by decide) rfl ?_
  first | refine QD.yv (by decide) rfl (Yv.load 0 T rfl rfl rfl rfl) ?_ | refine QD.yv (by decide) rfl (Yv.load 1 T rfl rfl rfl rfl) ?_ | refine QD.yv (by decide) rfl (Yv.load 2 T rfl rfl rfl rfl) ?_ | refine QD.yv (by decide) rfl (Yv.loadI T hA' rfl rfl) ?_ | refine QD.off (by decide) rfl ?_
  first | refine QD.ev T (by decide) rfl rfl ?_ | refine QD.off (by decide) rfl ?_
  first | refine QD.ev T (by decide) rfl rfl ?_ | refine QD.off (by decide) rfl ?_
  first | refine QD.ev T (by decide) rfl rfl ?_ | refine QD.off (by decide) rfl ?_
  first | refine QD.yv (by decide) rfl (Yv.load 0 T rfl rfl rfl rfl) ?_ | refine QD.yv (by decide) rfl (Yv.load 1 T rfl rfl rfl rfl) ?_ | refine QD.yv (by decide) rfl (Yv.load 2 T rfl rfl rfl rfl) ?_ | refine QD.yv (by decide) rfl (Yv.loadI T hA' rfl rfl) ?_ | refine QD.off (by decide) rfl ?_
  first | refine QD.e (Ev.indexS T rfl rfl rfl rfl (by first | omega | (simp only [List.length_cons, List.length_nil] ; omega) | (simp; omega)) (by first | omega | (simp only [List.length_cons, List.length_nil] ; omega) | (simp; omega))) (by decide) rfl ?_ | refine QD.off (by decide) rfl ?_
  first | refine QD.yv (by decide) rfl (Yv.load 0 T rfl rfl rfl rfl) ?_ | refine QD.yv (by decide) rfl (Yv.load 1 T rfl rfl rfl rfl) ?_ | refine QD.yv (by decide) rfl (Yv.load 2 T rfl rfl rfl rfl) ?_ | refine QD.yv (by decide) rfl (Yv.loadI T hA' rfl rfl) ?_ | refine QD.off (by decide) rfl ?_
  first | refine QD.e (Ev.eqlI rfl rfl) (by decide) rfl ?_ | refine QD.off (by decide) rfl ?_
  first | refine QD.ev T (by decide) rfl rfl ?_ | refine QD.off (by decide) rfl ?_
  first | refine QD.ev T (by decide) rfl rfl ?_ | refine QD.off (by decide) rfl ?_
  first | refine QD.ev T (by decide) rfl rfl ?_ | refine QD.off (by decide) rfl ?_
  first | refine QD.ev T (by decide) rfl rfl ?_ | refine QD.off (by decide) rfl ?_
  first | refine QD.ev T (by decide) rfl rfl ?_ | refine QD.off (by decide) rfl ?_
  first | refine QD.yv (by decide) rfl (Yv.load 0 T rfl rfl rfl rfl) ?_ | refine QD.yv (by decide) rfl (Yv.load 1 T rfl rfl rfl rfl) ?_ | refine QD.yv (by decide) rfl (Yv.load 2 T rfl rfl rfl rfl) ?_ | refine QD.yv (by decide) rfl (Yv.loadI T hA' rfl rfl) ?_ | refine QD.off (by decide) rfl ?_
  first | refine QD.ev T (by decide) rfl rfl ?_ | refine QD.off (by decide) rfl ?_
  first | refine QD.ev T (by decide) rfl rfl ?_ | refine QD.off (by decide) rfl ?_
  first | refine QD.ev T (by decide) rfl rfl ?_ | refine QD.off (by decide) rfl ?_
  first | refine QD.yv (by decide) rfl (Yv.load 0 T rfl rfl rfl rfl) ?_ | refine QD.yv (by decide) rfl (Yv.load 1 T rfl rfl rfl rfl) ?_ | refine QD.yv (by decide) rfl (Yv.load 2 T rfl rfl rfl rfl) ?_ | refine QD.yv (by decide) rfl (Yv.loadI T hA' rfl rfl) ?_ | refine QD.off (by decide) rfl ?_
  first | refine QD.e (Ev.indexS T rfl rfl rfl rfl (by first | omega | (simp only [List.length_cons, List.length_nil] ; omega) | (simp; omega)) (by first | omega | (simp only [List.length_cons, List.length_nil] ; omega) | (simp; omega))) (by decide) rfl ?_ | refine QD.off (by decide) rfl ?_
  first | refine QD.yv (by decide) rfl (Yv.load 0 T rfl rfl rfl rfl) ?_ | refine QD.yv (by decide) rfl (Yv.load 1 T rfl rfl rfl rfl) ?_ | refine QD.yv (by decide) rfl (Yv.load 2 T rfl rfl rfl rfl) ?_ | refine QD.yv (by decide) rfl (Yv.loadI T hA' rfl rfl) ?_ | refine QD.off (by decide) rfl ?_
  first | refine QD.e (Ev.eqlI rfl rfl) (by decide) rfl ?_ | refine QD.off (by decide) rfl ?_
  first | refine QD.ev T (by decide) rfl rfl ?_ | refine QD.off (by decide) rfl ?_
  refine QD.ev T (by decide) rfl rfl ?_
  refine QD.nil (hZ _ ?_)
  clear hZ Z
  repeat (first | refine Run.exit rfl ?_ | refine Run.cond_f rfl ?_)
  refine Run.end0 (by rw [hCf]; exact Proofs.Tryd.func43) Proofs.Tryd.results43 (hR _ _ _ ?_)
  exact ⟨rfl, rfl⟩
theorem reader_blankE (I : Imm) (xs : Tx) (v : Value) (db off c r d : Nat) (hR0 : Rd I v xs db off c) :
    Spec Proofs.Tryd.prog 43 [.pointer (some ⟨r, 0, none⟩)] I [(r, rdr v xs.length d)] fun w J M => M = [(r, rdr v xs.length d)] ∧ J = I := by
  obtain rfl := hR0.eq
  have hcap := hR0.cap
  refine Spec.enter 71 [(0, _)] Proofs.Tryd.func43 rfl Proofs.Tryd.ntmps43 (by simp) rfl ?_
  intro C hCf hR hCI
  repeat (first | refine Run.block ?_)
  refine Run.loop ?_
  repeat (first | refine Run.seq ?_)
  refine Run.regionQ (D := [some 2, some 3, some 4, some 5, some 6, some 7, some 8, some 9, some 10, some 11, some 12, some 13, some 14, some 15, some 16, some 17, some 18, some 19, some 20, some 21, some 22, some 23, some 24, some 25, some 26, some 27, some 28, some 29, some 30, some 31, some 32, some 33, some 34, some 35, some 36, some 37, some 38, some 39, some 40, some 41, some 42, some 43, some 44, some 45, some 46, some 47, some 48, some 49, some 50, some 51, some 52, some 53, some 54, some 55, some 56, some 57, some 58, some 59, some 60, some 61, some 62, some 63]) [true, true, true, true, true, true, true, true, true, true, true, true, true, true, true, true, true, true, true, true, true, true, true, true, true, true, true, true, true, true, true, true, true, true, true, true, true, true, true, true, true, true, true, true, true, true, true, true, true, true, true, true, true, true, true, true, true, true, true, true, true, true] (bl 62 4611686018427387903) (by kernel_rfl) (by kernel_rfl) (by kernel_rfl) (by kernel_rfl) rfl (fun Z hZ => ?_)
  refine QD.ev T (by decide) rfl rfl ?_
  refine QD.ev T (by decide) rfl rfl ?_
  refine QD.ev T (by decide) rfl rfl ?_
  first | refine QD.yv (by decide) rfl (Yv.load 0 T rfl rfl rfl rfl) ?_ | refine QD.yv (by decide) rfl (Yv.load 1 T rfl rfl rfl rfl) ?_ | refine QD.yv (by decide) rfl (Yv.load 2 T rfl rfl rfl rfl) ?_
  refine QD.ev T (by decide) rfl rfl ?_
  refine QD.ev T (by decide) rfl rfl ?_
  refine QD.ev T (by decide) rfl rfl ?_
  first | refine QD.yv (by decide) rfl (Yv.load 0 T rfl rfl rfl rfl) ?_ | refine QD.yv (by decide) rfl (Yv.load 1 T rfl rfl rfl rfl) ?_ | refine QD.yv (by decide) rfl (Yv.load 2 T rfl rfl rfl rfl) ?_
  refine QD.ev T (by decide) rfl rfl ?_
  refine QD.e ((Ev.lss rfl rfl).as (show _ = Value.bool false from congrArg Value.bool (decide_eq_false (Int.lt_irrefl _)))) (by decide) rfl ?_
  refine QD.ev T (by decide) rfl rfl ?_
  first | refine QD.ev T (by decide) rfl rfl ?_ | refine QD.off (by decide) rfl ?_
  first | refine QD.ev T (by decide) rfl rfl ?_ | refine QD.off (by decide) rfl ?_
  first | refine QD.ev T (by decide) rfl rfl ?_ | refine QD.off (by decide) rfl ?_
  first | refine QD.yv (by decide) rfl (Yv.load 0 T rfl rfl rfl rfl) ?_ | refine QD.yv (by decide) rfl (Yv.load 1 T rfl rfl rfl rfl) ?_ | refine QD.yv (by decide) rfl (Yv.load 2 T rfl rfl rfl rfl) ?_ | refine QD.off (by decide) rfl ?_
  first | refine QD.ev T (by decide) rfl rfl ?_ | refine QD.off (by decide) rfl ?_
  first | refine QD.ev T (by decide) rfl rfl ?_ | refine QD.off (by decide) rfl ?_
  first | refine QD.ev T (by decide) rfl rfl ?_ | refine QD.off (by decide) rfl ?_
  first | refine QD.yv (by decide) rfl (Yv.load 0 T rfl rfl rfl rfl) ?_ | refine QD.yv (by decide) rfl (Yv.load 1 T rfl rfl rfl rfl) ?_ | refine QD.yv (by decide) rfl (Yv.load 2 T rfl rfl rfl rfl) ?_ | refine QD.off (by decide) rfl ?_
  first | refine QD.e (Ev.indexS T rfl rfl rfl rfl (by first | omega | (simp only [List.length_cons, List.length_nil] ; omega) | (simp; omega)) (by first | omega | (simp only [List.length_cons, List.length_nil] ; omega) | (simp; omega))) (by decide) rfl ?_ | refine QD.off (by decide) rfl ?_
  first | refine QD.yv (by decide) rfl (Yv.load 0 T rfl rfl rfl rfl) ?_ | refine QD.yv (by decide) rfl (Yv.load 1 T rfl rfl rfl rfl) ?_ | refine QD.yv (by decide) rfl (Yv.load 2 T rfl rfl rfl rfl) ?_ | refine QD.off (by decide) rfl ?_
  first | refine QD.e (Ev.eqlI rfl rfl) (by decide) rfl ?_ | refine QD.off (by decide) rfl ?_
  first | refine QD.ev T (by decide) rfl rfl ?_ | refine QD.off (by decide) rfl ?_
  first | refine QD.ev T (by decide) rfl rfl ?_ | refine QD.off (by decide) rfl ?_
  first | refine QD.ev T (by decide) rfl rfl ?_ | refine QD.off (by decide) rfl ?_
  first | refine QD.ev T (by decide) rfl rfl ?_ | refine QD.off (by decide) rfl ?_
  first | refine QD.yv (by decide) rfl (Yv.load 0 T rfl rfl rfl rfl) ?_ | refine QD.yv (by decide) rfl (Yv.load 1 T rfl rfl rfl rfl) ?_ | refine QD.yv (by decide) rfl (Yv.load 2 T rfl rfl rfl rfl) ?_ | refine QD.off (by decide) rfl ?_
  first | refine QD.ev T (by decide) rfl rfl ?_ | refine QD.off (by decide) rfl ?_
  first | refine QD.ev T (by decide) rfl rfl ?_ | refine QD.off (by decide) rfl ?_
  first | refine QD.ev T (by decide) rfl rfl ?_ | refine QD.off (by decide) rfl ?_
  first | refine QD.yv (by decide) rfl (Yv.load 0 T rfl rfl rfl rfl) ?_ | refine QD.yv (by decide) rfl (Yv.load 1 T rfl rfl rfl rfl) ?_ | refine QD.yv (by decide) rfl (Yv.load 2 T rfl rfl rfl rfl) ?_ | refine QD.off (by decide) rfl ?_
  first | refine QD.e (Ev.indexS T rfl rfl rfl rfl (by first | omega | (simp only [List.length_cons, List.length_nil] ; omega) | (simp; omega)) (by first | omega | (simp only [List.length_cons, List.length_nil] ; omega) | (simp; omega))) (by decide) rfl ?_ | refine QD.off (by decide) rfl ?_
  first | refine QD.yv (by decide) rfl (Yv.load 0 T rfl rfl rfl rfl) ?_ | refine QD.yv (by decide) rfl (Yv.load 1 T rfl rfl rfl rfl) ?_ | refine QD.yv (by decide) rfl (Yv.load 2 T rfl rfl rfl rfl) ?_ | refine QD.off (by decide) rfl ?_
  first | refine QD.e (Ev.eqlI rfl rfl) (by decide) rfl ?_ | refine QD.off (by decide) rfl ?_
  first | refine QD.ev T (by decide) rfl rfl ?_ | refine QD.off (by decide) rfl ?_
  first | refine QD.ev T (by decide) rfl rfl ?_ | refine QD.off (by decide) rfl ?_
  first | refine QD.ev T (by decide) rfl rfl ?_ | refine QD.off (by decide) rfl ?_
  first | refine QD.ev T (by decide) rfl rfl ?_ | refine QD.off (by decide) rfl ?_
  first | refine QD.ev T (by decide) rfl rfl ?_ | refine QD.off (by decide) rfl ?_
  first | refine QD.yv (by decide) rfl (Yv.load 0 T rfl rfl rfl rfl) ?_ | refine QD.yv (by decide) rfl (Yv.load 1 T rfl rfl rfl rfl) ?_ | refine QD.yv (by decide) rfl (Yv.load 2 T rfl rfl rfl rfl) ?_ | refine QD.off (by decide) rfl ?_
  first | refine QD.ev T (by decide) rfl rfl ?_ | refine QD.off (by decide) rfl ?_
  first | refine QD.ev T (by decide) rfl rfl ?_ | refine QD.off (by decide) rfl ?_
  first | refine QD.ev T (by decide) rfl rfl ?_ | refine QD.off (by decide) rfl ?_
  first | refine QD.yv (by decide) rfl (Yv.load 0 T rfl rfl rfl rfl) ?_ | refine QD.yv (by decide) rfl (Yv.load 1 T rfl rfl rfl rfl) ?_ | refine QD.yv (by decide) rfl (Yv.load 2 T rfl rfl rfl rfl) ?_ | refine QD.off (by decide) rfl ?_
  first | refine QD.e (Ev.indexS T rfl rfl rfl rfl (by first | omega | (simp only [List.length_cons, List.length_nil] ; omega) | (simp; omega)) (by first | omega | (simp only [List.length_cons, List.length_nil] ; omega) | (simp; omega))) (by decide) rfl ?_ | refine QD.off (by decide) rfl ?_
  first | refine QD.yv (by decide) rfl (Yv.load 0 T rfl rfl rfl rfl) ?_ | refine QD.yv (by decide) rfl (Yv.load 1 T rfl rfl rfl rfl) ?_ | refine QD.yv (by decide) rfl (Yv.load 2 T rfl rfl rfl rfl) ?_ | refine QD.off (by decide) rfl ?_
  first | refine QD.e (Ev.eqlI rfl rfl) (by decide) rfl ?_ | refine QD.off (by decide) rfl ?_
  first | refine QD.ev T (by decide) rfl rfl ?_ | refine QD.off (by decide) rfl ?_
  first | refine QD.ev T (by decide) rfl rfl ?_ | refine QD.off (by decide) rfl ?_
  first | refine QD.ev T (by decide) rfl rfl ?_ | refine QD.off (by decide) rfl ?_
  first | refine QD.ev T (by decide) rfl rfl ?_ | refine QD.off (by decide) rfl ?_
  first | refine QD.ev T (by decide) rfl rfl ?_ | refine QD.off (by decide) rfl ?_
  first | refine QD.yv (by decide) rfl (Yv.load 0 T rfl rfl rfl rfl) ?_ | refine QD.yv (by decide) rfl (Yv.load 1 T rfl rfl rfl rfl) ?_ | refine QD.yv (by decide) rfl (Yv.load 2 T rfl rfl rfl rfl) ?_ | refine QD.off (by decide) rfl ?_
  first | refine QD.ev T (by decide) rfl rfl ?_ | refine QD.off (by decide) rfl ?_
  first | refine QD.ev T (by decide) rfl rfl ?_ | refine QD.off (by decide) rfl ?_
  first | refine QD.ev T (by decide) rfl rfl ?_ | refine QD.off (by decide) rfl ?_
  first | refine QD.yv (by decide) rfl (Yv.load 0 T rfl rfl rfl rfl) ?_ | refine QD.yv (by decide) rfl (Yv.load 1 T rfl rfl rfl rfl) ?_ | refine QD.yv (by decide) rfl (Yv.load 2 T rfl rfl rfl rfl) ?_ | refine QD.off (by decide) rfl ?_
  first | refine QD.e (Ev.indexS T rfl rfl rfl rfl (by first | omega | (simp only [List.length_cons, List.length_nil] ; omega) | (simp; omega)) (by first | omega | (simp only [List.length_cons, List.length_nil] ; omega) | (simp; omega))) (by decide) rfl ?_ | refine QD.off (by decide) rfl ?_
  first | refine QD.yv (by decide) rfl (Yv.load 0 T rfl rfl rfl rfl) ?_ | refine QD.yv (by decide) rfl (Yv.load 1 T rfl rfl rfl rfl) ?_ | refine QD.yv (by decide) rfl (Yv.load 2 T rfl rfl rfl rfl) ?_ | refine QD.off (by decide) rfl ?_
  first | refine QD.e (Ev.eqlI rfl rfl) (by decide) rfl ?_ | refine QD.off (by decide) rfl ?_
  first | refine QD.ev T (by decide) rfl rfl ?_ | refine QD.off (by decide) rfl ?_
  refine QD.ev T (by decide) rfl rfl ?_
  refine QD.nil (hZ _ ?_)
  clear hZ Z
  repeat (first | refine Run.exit rfl ?_ | refine Run.cond_f rfl ?_)
  refine Run.end0 (by rw [hCf]; exact Proofs.Tryd.func43) Proofs.Tryd.results43 (hR _ _ _ ?_)
  exact ⟨rfl, rfl⟩
end Go.V
