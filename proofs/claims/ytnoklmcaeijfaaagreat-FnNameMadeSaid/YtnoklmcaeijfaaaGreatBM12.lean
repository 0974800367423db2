import Derived.Test.YtnoklmcaeijfaaaGreatBM11
/-
  Names made.
-/
namespace Go.V
open Go.RowKit Go.Lib
set_option linter.unusedVariables false
set_option linter.unusedSimpArgs false
set_option maxRecDepth 10000
attribute [local irreducible] Run Ops
theorem Registry_Repo (I : Imm) (ins : Bool) (r : Tx) (xs : Txts) (v : Value) (hS : Sl tStr I v xs) (hne : xs ≠ []) (hlen : Pa.lens xs + xs.length ≤ 281474976710656) : Pure Proofs.Tryz.prog 39 [.agg [.bool ins, str r].toArray, v] I fun w J => w = .agg [.bool ins, str r, str (Pa.joinL xs)].toArray := by
  refine Spec.enter 9 [(0, _), (1, _)] Proofs.Tryz.func39 rfl Proofs.Tryz.ntmps39 (by simp) rfl ?_
  intro C hCf hR hCI
  repeat (first | refine Run.seq ?_ | refine Run.region ?_)
  refine Ops.box rfl (by decide) rfl rfl (fun b => ?_)
  refine Ops.alloc rfl (by decide) (T.zeroOk rfl) rfl (fun b2 => ?_)
  repeat (first | refine Run.seq ?_ | refine Ops.nil ?_)
  refine Run.regionAny (Holds I [(b, blk [.bool ins, str r] 52)]) (bl 5 0) (by kernel_rfl) (by kernel_rfl) ?_
  first | refine RAny.tk 0 (bl 5 1) rfl (by kernel_rfl) (by decide) (fun W h => h.holds (Le.refl _) (by first | exact mp rfl | exact mq rfl)) (Yld.loadN 0 T rfl rfl rfl rfl rfl rfl rfl) ?_ | refine RAny.tk 0 (bl 5 1) rfl (by kernel_rfl) (by decide) (fun W h => h.holds (Le.refl _) (by first | exact mp rfl | exact mq rfl)) (Yld.loadN 1 T rfl rfl rfl rfl rfl rfl rfl) ?_ | refine RAny.tk 0 (bl 5 1) rfl (by kernel_rfl) (by decide) (fun W h => h.holds (Le.refl _) (by first | exact mp rfl | exact mq rfl)) (Yld.loadN 2 T rfl rfl rfl rfl rfl rfl rfl) ?_
  refine RAny.tk 1 (bl 5 3) rfl (by kernel_rfl) (by decide) (fun W h => h.holds (Le.refl _) (by first | exact mp rfl | exact mq rfl)) (Yld.eval T rfl rfl) ?_
  refine RAny.on 2 (bl 5 7) rfl (by kernel_rfl) rfl (by decide) (Eff.call (path_Join I xs v hS hne hlen) Proofs.Tryz.call88 rfl fun x2 J2 l2 hx2 => ⟨fun W h => h.holds l2 (by first | exact mp rfl | exact mq rfl), ?_⟩)
  obtain ⟨rfl, _⟩ := hx2
  skip
  refine RAny.tk 3 (bl 5 15) rfl (by kernel_rfl) (by decide) (fun W h => h.holds l2 (by first | exact mp rfl | exact mq rfl)) (Yld.buildL bd54 rfl rfl rfl) ?_
  refine RAny.os 4 (bl 5 31) rfl (by kernel_rfl) rfl (Eff.store 0 rfl rfl rfl rfl (T.sizeOk rfl) rfl (Nat.le_of_ble_eq_true rfl) rfl rfl ⟨fun W h => h.holds l2 (by first | exact mp rfl | exact mq rfl), ?_⟩)
  refine RAny.done _ (by kernel_rfl) ?_
  skip
  refine Run.retC T 0 (by rw [hCf]; exact Proofs.Tryz.func39) Proofs.Tryz.results39 rfl rfl rfl rfl rfl rfl (hR _ _ _ ?_)
  exact ⟨rfl, rfl⟩
set_option maxHeartbeats 2000000 in
theorem Repository_Tag (I : Imm) (ins : Bool) (r p t : Tx) (hr : r.length ≤ 1099511627776) (hp : p.length ≤ 1099511627776) (ht : t.length ≤ 1099511627776) (hne : r ≠ []) : Pure Proofs.Tryz.prog 40 [.agg [.bool ins, str r, str p].toArray, str t] I fun w J => w = .agg [.bool ins, str r, str p, str t, str (repoT r (fullP r p) ++ [58] ++ t)].toArray := by
  refine Spec.enter 13 [(0, _), (1, _)] Proofs.Tryz.func40 rfl Proofs.Tryz.ntmps40 (by simp) rfl ?_
  intro C hCf hR hCI
  repeat (first | refine Run.seq ?_ | refine Run.region ?_)
  refine Ops.box rfl (by decide) rfl rfl (fun b => ?_)
  refine Ops.alloc rfl (by decide) (T.zeroOk rfl) rfl (fun b2 => ?_)
  repeat (first | refine Run.seq ?_ | refine Run.region ?_ | refine Ops.nil ?_ | refine Ops.pure T rfl (by decide) rfl ?_ | refine Ops.loadN 1 rfl (by decide) rfl rfl (T.aggOk rfl) (T.sizeOk rfl) rfl rfl ?_)
  refine Ops.buildL bd56 rfl (by decide) rfl rfl ?_
  refine Ops.alloc rfl (by decide) (T.zeroOk rfl) rfl (fun b3 => ?_)
  repeat (first | refine Run.seq ?_ | refine Run.region ?_ | refine Ops.nil ?_ | refine Ops.loadN 0 rfl (by decide) rfl rfl (T.aggOk rfl) (T.sizeOk rfl) rfl rfl ?_ | refine Ops.store 0 rfl rfl rfl rfl rfl (T.sizeOk rfl) rfl (Nat.le_of_ble_eq_true rfl) rfl rfl ?_)
  refine Ops.call ((Tag_Name I ins r p t [] hr hp ht hne)) rfl (by decide) Proofs.Tryz.call54 rfl ?_
  rintro _ J1 l1 rfl
  repeat (first | refine Run.seq ?_ | refine Run.region ?_ | refine Ops.nil ?_ | refine Ops.pure T rfl (by decide) rfl ?_ | refine Ops.loadN 0 rfl (by decide) rfl rfl (T.aggOk rfl) (T.sizeOk rfl) rfl rfl ?_ | refine Ops.store 0 rfl rfl rfl rfl rfl (T.sizeOk rfl) rfl (Nat.le_of_ble_eq_true rfl) rfl rfl ?_ | refine Ops.store 1 rfl rfl rfl rfl rfl (T.sizeOk rfl) rfl (Nat.le_of_ble_eq_true rfl) rfl rfl ?_)
  refine Run.retC T 1 (by rw [hCf]; exact Proofs.Tryz.func40) Proofs.Tryz.results40 rfl rfl rfl rfl rfl rfl (hR _ _ _ ?_)
  exact ⟨rfl, rfl⟩
set_option maxHeartbeats 2000000 in
theorem Repository_Digest (I : Imm) (ins : Bool) (r p t : Tx) (hr : r.length ≤ 1099511627776) (hp : p.length ≤ 1099511627776) (ht : t.length ≤ 1099511627776) (hne : r ≠ []) : Pure Proofs.Tryz.prog 41 [.agg [.bool ins, str r, str p].toArray, str t] I fun w J => w = .agg [.bool ins, str r, str p, str t, str (repoT r (fullP r p) ++ [64] ++ t)].toArray := by
  refine Spec.enter 13 [(0, _), (1, _)] Proofs.Tryz.func41 rfl Proofs.Tryz.ntmps41 (by simp) rfl ?_
  intro C hCf hR hCI
  repeat (first | refine Run.seq ?_ | refine Run.region ?_)
  refine Ops.box rfl (by decide) rfl rfl (fun b => ?_)
  refine Ops.alloc rfl (by decide) (T.zeroOk rfl) rfl (fun b2 => ?_)
  repeat (first | refine Run.seq ?_ | refine Run.region ?_ | refine Ops.nil ?_ | refine Ops.pure T rfl (by decide) rfl ?_ | refine Ops.loadN 1 rfl (by decide) rfl rfl (T.aggOk rfl) (T.sizeOk rfl) rfl rfl ?_)
  refine Ops.buildL bd59 rfl (by decide) rfl rfl ?_
  refine Ops.alloc rfl (by decide) (T.zeroOk rfl) rfl (fun b3 => ?_)
  repeat (first | refine Run.seq ?_ | refine Run.region ?_ | refine Ops.nil ?_ | refine Ops.loadN 0 rfl (by decide) rfl rfl (T.aggOk rfl) (T.sizeOk rfl) rfl rfl ?_ | refine Ops.store 0 rfl rfl rfl rfl rfl (T.sizeOk rfl) rfl (Nat.le_of_ble_eq_true rfl) rfl rfl ?_)
  refine Ops.call ((Digest_Name I ins r p t [] hr hp ht hne)) rfl (by decide) Proofs.Tryz.call63 rfl ?_
  rintro _ J1 l1 rfl
  repeat (first | refine Run.seq ?_ | refine Run.region ?_ | refine Ops.nil ?_ | refine Ops.pure T rfl (by decide) rfl ?_ | refine Ops.loadN 0 rfl (by decide) rfl rfl (T.aggOk rfl) (T.sizeOk rfl) rfl rfl ?_ | refine Ops.store 0 rfl rfl rfl rfl rfl (T.sizeOk rfl) rfl (Nat.le_of_ble_eq_true rfl) rfl rfl ?_ | refine Ops.store 1 rfl rfl rfl rfl rfl (T.sizeOk rfl) rfl (Nat.le_of_ble_eq_true rfl) rfl rfl ?_)
  refine Run.retC T 1 (by rw [hCf]; exact Proofs.Tryz.func41) Proofs.Tryz.results41 rfl rfl rfl rfl rfl rfl (hR _ _ _ ?_)
  exact ⟨rfl, rfl⟩
theorem sReg_named {r : Tx} (h : hostNamed r = true) : sReg false [] r = (aliasT r, true, false) := by
  simp only [hostNamed, Bool.and_eq_true] at h
  unfold sReg
  rw [hostPlain_good h.1, h.1, if_neg (hosted_ne h.2)]
  rfl
theorem named_alias {r : Tx} (h : hostNamed r = true) : hostPlain (aliasT r) = true ∧ aliasT r ≠ [] ∧ (aliasT r).length ≤ 306 := by
  simp only [hostNamed, Bool.and_eq_true] at h
  have h1 := alias_plain h.1
  exact ⟨h1, alias_nil (hosted_ne h.2), plain_len h1⟩
set_option maxHeartbeats 4000000 in
theorem impl_NameMade (I : Imm) (reg id : Tx) (xs : Txts) (v : Value) (which : Int) (hS : Sl tStr I v xs) (hg : ∀ x ∈ xs, goodPart x) (hne : xs ≠ []) (hreg : hostNamed reg = true) (hl : (Pa.joinBuf xs).length ≤ 1000) (hid : id.length ≤ 1000) (hw : which = 2 ∨ which = 3 ∨ which = 4) :
    Pure Proofs.Tryz.prog 19 [str reg, v, str id, .int .i64 which] I fun w J => ∃ t, w = .tuple #[.agg (nmd (pHttp (aliasT reg)) which (aliasT reg) (fullP (aliasT reg) (Pa.joinBuf xs)) (if which = 2 then [] else id) t).cs.toArray, .bool true] := by
  obtain ⟨a1, a2, a3⟩ := named_alias hreg
  have hpl : reg.length ≤ 306 := plain_len (by simp only [hostNamed, Bool.and_eq_true] at hreg; exact hreg.1)
  obtain ⟨n1, n2⟩ := joinBuf_len (xs := xs)
  have n2 := n2 hg
  have hjl := joinL_parts hg
  rcases hw with rfl | rfl | rfl
  · skip
    refine Spec.enter 43 [(0, _), (1, _), (2, _), (3, _)] Proofs.Tryz.func19 rfl Proofs.Tryz.ntmps19 (by simp) rfl ?_
    intro C hCf hR hCI
    repeat (first | refine Run.seq ?_ | refine Run.region ?_)
    refine Ops.alloc rfl (by decide) (T.zeroOk rfl) rfl (fun b => ?_)
    repeat (first | refine Run.seq ?_ | refine Run.region ?_ | refine Ops.nil ?_ | refine Ops.pure T rfl (by decide) rfl ?_)
    refine Ops.call ((name_NewRegistry I reg _ ⟨false, false, [], []⟩ (OptsAre.none I) (by omega))) rfl (by decide) Proofs.Tryz.call26 rfl ?_
    rintro w J1 l1 ⟨a, hres, hans, _⟩
    obtain rfl : a = some (aliasT reg) := hans _ _ (sReg_named hreg)
    have hres2 : w = _ := hres
    subst hres2
    repeat (first | refine Ops.pure T rfl (by decide) rfl ?_)
    refine Ops.alloc rfl (by decide) (T.zeroOk rfl) rfl (fun b2 => ?_)
    repeat (first | refine Run.seq ?_ | refine Run.region ?_ | refine Ops.nil ?_ | refine Run.skip ?_ | refine Run.cond_f rfl ?_ | refine Ops.neqNil T rfl (by decide) rfl rfl rfl rfl rfl ?_ | refine Ops.pure T rfl (by decide) rfl ?_ | refine Ops.loadN 0 rfl (by decide) rfl rfl (T.aggOk rfl) (T.sizeOk rfl) rfl rfl ?_ | refine Ops.store 0 rfl rfl rfl rfl rfl (T.sizeOk rfl) rfl (Nat.le_of_ble_eq_true rfl) rfl rfl ?_)
    refine Ops.call ((Registry_Repo J1 false (aliasT reg) xs v (hS.mono l1) hne (by omega))) rfl (by decide) Proofs.Tryz.call39 rfl ?_
    rintro _ J2 l2 rfl
    rw [hjl]
    refine Ops.alloc rfl (by decide) (T.zeroOk rfl) rfl (fun b3 => ?_)
    repeat (first | refine Run.seq ?_ | refine Run.region ?_ | refine Ops.nil ?_ | refine Run.block ?_ | refine Run.cond_t rfl ?_ | refine Ops.eql rfl (by decide) rfl rfl ?_ | refine Ops.pure T rfl (by decide) rfl ?_ | refine Ops.loadN 0 rfl (by decide) rfl rfl (T.aggOk rfl) (T.sizeOk rfl) rfl rfl ?_ | refine Ops.store 0 rfl rfl rfl rfl rfl (T.sizeOk rfl) rfl (Nat.le_of_ble_eq_true rfl) rfl rfl ?_)
    refine Ops.call ((impl_repositoryNamed J2 false (aliasT reg) (Pa.joinBuf xs) (by omega) (by omega) a2)) rfl (by decide) Proofs.Tryz.call29 rfl ?_
    rintro _ J3 l3 rfl
    obtain ⟨nm, f, sc, cn, ct, rn, he⟩ := nmd_split 2 (aliasT reg) (fullP (aliasT reg) (Pa.joinBuf xs)) [] (by decide)
    rw [he]
    repeat (first | refine Run.seq ?_ | refine Run.region ?_ | refine Ops.nil ?_ | refine Run.inBlock ?_ | refine Ops.pure T rfl (by decide) rfl ?_ | refine Ops.loadN 2 rfl (by decide) rfl rfl (T.aggOk rfl) (T.sizeOk rfl) rfl rfl ?_ | refine Ops.store 2 rfl rfl rfl rfl rfl (T.sizeOk rfl) rfl (Nat.le_of_ble_eq_true rfl) rfl rfl ?_)
    refine Run.retCT T 2 (by rw [hCf]; exact Proofs.Tryz.func19) Proofs.Tryz.results19 rfl rfl rfl rfl rfl rfl rfl (hR _ _ _ ?_)
    refine ⟨rfl, [], ?_⟩
    rw [show (if (2 : Int) = 2 then [] else id) = [] from rfl, he]
    rfl
  · skip
    refine Spec.enter 43 [(0, _), (1, _), (2, _), (3, _)] Proofs.Tryz.func19 rfl Proofs.Tryz.ntmps19 (by simp) rfl ?_
    intro C hCf hR hCI
    repeat (first | refine Run.seq ?_ | refine Run.region ?_)
    refine Ops.alloc rfl (by decide) (T.zeroOk rfl) rfl (fun b => ?_)
    repeat (first | refine Run.seq ?_ | refine Run.region ?_ | refine Ops.nil ?_ | refine Ops.pure T rfl (by decide) rfl ?_)
    refine Ops.call ((name_NewRegistry I reg _ ⟨false, false, [], []⟩ (OptsAre.none I) (by omega))) rfl (by decide) Proofs.Tryz.call26 rfl ?_
    rintro w J1 l1 ⟨a, hres, hans, _⟩
    obtain rfl : a = some (aliasT reg) := hans _ _ (sReg_named hreg)
    have hres2 : w = _ := hres
    subst hres2
    repeat (first | refine Ops.pure T rfl (by decide) rfl ?_)
    refine Ops.alloc rfl (by decide) (T.zeroOk rfl) rfl (fun b2 => ?_)
    repeat (first | refine Run.seq ?_ | refine Run.region ?_ | refine Ops.nil ?_ | refine Run.skip ?_ | refine Run.cond_f rfl ?_ | refine Ops.neqNil T rfl (by decide) rfl rfl rfl rfl rfl ?_ | refine Ops.pure T rfl (by decide) rfl ?_ | refine Ops.loadN 0 rfl (by decide) rfl rfl (T.aggOk rfl) (T.sizeOk rfl) rfl rfl ?_ | refine Ops.store 0 rfl rfl rfl rfl rfl (T.sizeOk rfl) rfl (Nat.le_of_ble_eq_true rfl) rfl rfl ?_)
    refine Ops.call ((Registry_Repo J1 false (aliasT reg) xs v (hS.mono l1) hne (by omega))) rfl (by decide) Proofs.Tryz.call39 rfl ?_
    rintro _ J2 l2 rfl
    rw [hjl]
    refine Ops.alloc rfl (by decide) (T.zeroOk rfl) rfl (fun b3 => ?_)
    repeat (first | refine Run.seq ?_ | refine Run.region ?_ | refine Ops.nil ?_ | refine Run.block ?_ | refine Run.cond_t rfl ?_ | refine Run.cond_f rfl ?_ | refine Ops.eql rfl (by decide) rfl rfl ?_ | refine Ops.pure T rfl (by decide) rfl ?_ | refine Ops.loadN 0 rfl (by decide) rfl rfl (T.aggOk rfl) (T.sizeOk rfl) rfl rfl ?_ | refine Ops.store 0 rfl rfl rfl rfl rfl (T.sizeOk rfl) rfl (Nat.le_of_ble_eq_true rfl) rfl rfl ?_)
    refine Ops.call ((Repository_Tag J2 false (aliasT reg) (Pa.joinBuf xs) id (by omega) (by omega) (by omega) a2)) rfl (by decide) Proofs.Tryz.call40 rfl ?_
    rintro _ J3 l3 rfl
    refine Ops.call ((impl_tagNamed J3 false (aliasT reg) (Pa.joinBuf xs) id _ (by omega) (by omega) (by omega) a2)) rfl (by decide) Proofs.Tryz.call24 rfl ?_
    rintro _ J4 l4 rfl
    obtain ⟨nm, f, sc, cn, ct, rn, he⟩ := nmd_split 3 (aliasT reg) (fullP (aliasT reg) (Pa.joinBuf xs)) id (by decide)
    rw [he]
    repeat (first | refine Run.seq ?_ | refine Run.region ?_ | refine Ops.nil ?_ | refine Run.inBlock ?_ | refine Ops.pure T rfl (by decide) rfl ?_ | refine Ops.loadN 2 rfl (by decide) rfl rfl (T.aggOk rfl) (T.sizeOk rfl) rfl rfl ?_ | refine Ops.store 2 rfl rfl rfl rfl rfl (T.sizeOk rfl) rfl (Nat.le_of_ble_eq_true rfl) rfl rfl ?_)
    refine Run.retCT T 2 (by rw [hCf]; exact Proofs.Tryz.func19) Proofs.Tryz.results19 rfl rfl rfl rfl rfl rfl rfl (hR _ _ _ ?_)
    refine ⟨rfl, (repoT (aliasT reg) (fullP (aliasT reg) (Pa.joinBuf xs)) ++ [58] ++ id), ?_⟩
    rw [show (if (3 : Int) = 2 then [] else id) = id from rfl, he]
    rfl
  · skip
    refine Spec.enter 43 [(0, _), (1, _), (2, _), (3, _)] Proofs.Tryz.func19 rfl Proofs.Tryz.ntmps19 (by simp) rfl ?_
    intro C hCf hR hCI
    repeat (first | refine Run.seq ?_ | refine Run.region ?_)
    refine Ops.alloc rfl (by decide) (T.zeroOk rfl) rfl (fun b => ?_)
    repeat (first | refine Run.seq ?_ | refine Run.region ?_ | refine Ops.nil ?_ | refine Ops.pure T rfl (by decide) rfl ?_)
    refine Ops.call ((name_NewRegistry I reg _ ⟨false, false, [], []⟩ (OptsAre.none I) (by omega))) rfl (by decide) Proofs.Tryz.call26 rfl ?_
    rintro w J1 l1 ⟨a, hres, hans, _⟩
    obtain rfl : a = some (aliasT reg) := hans _ _ (sReg_named hreg)
    have hres2 : w = _ := hres
    subst hres2
    repeat (first | refine Ops.pure T rfl (by decide) rfl ?_)
    refine Ops.alloc rfl (by decide) (T.zeroOk rfl) rfl (fun b2 => ?_)
    repeat (first | refine Run.seq ?_ | refine Run.region ?_ | refine Ops.nil ?_ | refine Run.skip ?_ | refine Run.cond_f rfl ?_ | refine Ops.neqNil T rfl (by decide) rfl rfl rfl rfl rfl ?_ | refine Ops.pure T rfl (by decide) rfl ?_ | refine Ops.loadN 0 rfl (by decide) rfl rfl (T.aggOk rfl) (T.sizeOk rfl) rfl rfl ?_ | refine Ops.store 0 rfl rfl rfl rfl rfl (T.sizeOk rfl) rfl (Nat.le_of_ble_eq_true rfl) rfl rfl ?_)
    refine Ops.call ((Registry_Repo J1 false (aliasT reg) xs v (hS.mono l1) hne (by omega))) rfl (by decide) Proofs.Tryz.call39 rfl ?_
    rintro _ J2 l2 rfl
    rw [hjl]
    refine Ops.alloc rfl (by decide) (T.zeroOk rfl) rfl (fun b3 => ?_)
    repeat (first | refine Run.seq ?_ | refine Run.region ?_ | refine Ops.nil ?_ | refine Run.block ?_ | refine Run.cond_t rfl ?_ | refine Run.cond_f rfl ?_ | refine Ops.eql rfl (by decide) rfl rfl ?_ | refine Ops.pure T rfl (by decide) rfl ?_ | refine Ops.loadN 0 rfl (by decide) rfl rfl (T.aggOk rfl) (T.sizeOk rfl) rfl rfl ?_ | refine Ops.store 0 rfl rfl rfl rfl rfl (T.sizeOk rfl) rfl (Nat.le_of_ble_eq_true rfl) rfl rfl ?_)
    refine Ops.call ((Repository_Digest J2 false (aliasT reg) (Pa.joinBuf xs) id (by omega) (by omega) (by omega) a2)) rfl (by decide) Proofs.Tryz.call41 rfl ?_
    rintro _ J3 l3 rfl
    refine Ops.call ((impl_digestNamed J3 false (aliasT reg) (Pa.joinBuf xs) id _ (by omega) (by omega) (by omega) a2)) rfl (by decide) Proofs.Tryz.call25 rfl ?_
    rintro _ J4 l4 rfl
    obtain ⟨nm, f, sc, cn, ct, rn, he⟩ := nmd_split 4 (aliasT reg) (fullP (aliasT reg) (Pa.joinBuf xs)) id (by decide)
    rw [he]
    repeat (first | refine Run.seq ?_ | refine Run.region ?_ | refine Ops.nil ?_ | refine Run.inBlock ?_ | refine Ops.pure T rfl (by decide) rfl ?_ | refine Ops.loadN 2 rfl (by decide) rfl rfl (T.aggOk rfl) (T.sizeOk rfl) rfl rfl ?_ | refine Ops.store 2 rfl rfl rfl rfl rfl (T.sizeOk rfl) rfl (Nat.le_of_ble_eq_true rfl) rfl rfl ?_)
    refine Run.retCT T 2 (by rw [hCf]; exact Proofs.Tryz.func19) Proofs.Tryz.results19 rfl rfl rfl rfl rfl rfl rfl (hR _ _ _ ?_)
    refine ⟨rfl, (repoT (aliasT reg) (fullP (aliasT reg) (Pa.joinBuf xs)) ++ [64] ++ id), ?_⟩
    rw [show (if (4 : Int) = 2 then [] else id) = id from rfl, he]
    rfl
end Go.V
/-
  The law of names made: it returns true.
-/
namespace Go.V
open Go.RowKit Go.Lib
set_option linter.unusedVariables false
set_option linter.unusedSimpArgs false
set_option maxRecDepth 10000
attribute [local irreducible] Run Ops
theorem parts3 {o : NOpt} {s r p t : Tx} {k : Int} {ok op : Bool} (h : sParts o 3 s = (k, r, p, t, ok, op)) : k = 3 ∧ sTag o s = (r, p, t, ok, op) := by
  simp only [sParts, show ¬ (3 : Int) = 1 by decide, show ¬ (3 : Int) = 2 by decide, if_false, if_true, Prod.mk.injEq] at h
  obtain ⟨rfl, h1, h2, h3, h4, h5⟩ := h
  exact ⟨rfl, Prod.ext h1 (Prod.ext h2 (Prod.ext h3 (Prod.ext h4 h5)))⟩
theorem parts4 {o : NOpt} {s r p t : Tx} {k : Int} {ok op : Bool} (h : sParts o 4 s = (k, r, p, t, ok, op)) : k = 4 ∧ sDig o s = (r, p, t, ok, op) := by
  simp only [sParts, show ¬ (4 : Int) = 1 by decide, show ¬ (4 : Int) = 2 by decide, show ¬ (4 : Int) = 3 by decide, if_false, if_true, Prod.mk.injEq] at h
  obtain ⟨rfl, h1, h2, h3, h4, h5⟩ := h
  exact ⟨rfl, Prod.ext h1 (Prod.ext h2 (Prod.ext h3 (Prod.ext h4 h5)))⟩
set_option maxHeartbeats 16000000 in
theorem laws_FnNameMade (I : Imm) (v0 : Value) (reg : Tx) (h0 : Val .str I v0 reg) (k0 : Cd.str.ok reg) (v : Value) (ys : Option (List Tx)) (hv : Val (.nsl .str) I v ys) (kv : (Cd.nsl .str).ok ys) (v2 : Value) (id : Tx) (h2 : Val .str I v2 id) (k2 : Cd.str.ok id) (v3 : Value) (dg : Bool) (h3 : Val .bool I v3 dg) (k3 : Cd.bool.ok dg) : Pure Proofs.Tryz.prog 9 [v0, v, v2, v3] I fun v _ => v = .bool true := by
  obtain rfl := h0.str
  obtain rfl := h2.str
  obtain rfl := h3.bool
  have hS : Sl tStr I v (ys.getD []) := by
    cases ys with
    | none =>
      obtain rfl : v = _ := by simpa [Val, Cd.T, tNSl] using hv
      exact Sl.nil _ _
    | some xs =>
      obtain ⟨a, c, e, h1, h2⟩ : ∃ a c, [v] = [Value.slice (some a) xs.length c] ∧ xs.length ≤ c ∧ (xs = [] ∨ ∃ b off, a = ⟨b, off, none⟩ ∧ RowAt tStr I b off xs) := hv
      obtain rfl : v = _ := by simpa using e
      refine ⟨some a, c, rfl, h1, ?_⟩
      rcases h2 with e | ⟨b, off, h3, h4⟩
      · exact Or.inl e
      · exact Or.inr ⟨b, off, by rw [h3], h4⟩
  clear hv kv h0 h2 h3 k0 k2 k3
  generalize ys.getD [] = xs at *
  refine Spec.enter 137 [(0, _), (1, _), (2, _), (3, _)] Proofs.Tryz.func9 rfl Proofs.Tryz.ntmps9 (by simp) rfl ?_
  intro C hCf hR hCI
  repeat (first | refine Run.seq ?_ | refine Run.region ?_ | refine Ops.nil ?_ | refine Ops.gtr rfl (by decide) rfl rfl ?_ | refine Ops.pure T rfl (by decide) rfl ?_ | refine Ops.lenS T rfl (by decide) rfl rfl ?_)
  cases c0 : decide ((2147483647 : Int) < reg.length) with
  | true =>
    repeat (first | refine Run.seq ?_ | refine Run.region ?_ | refine Ops.nil ?_ | refine Run.cond_t rfl ?_ | refine Ops.not rfl (by decide) ?_ | refine Ops.pure T rfl (by decide) rfl ?_)
    refine Run.fin (Run.ret1 (by rw [hCf]; exact Proofs.Tryz.func9) Proofs.Tryz.results9 rfl (hR _ _ _ ?_))
    exact ⟨rfl, rfl⟩
  | false =>
  have c0' := of_decide_eq_false c0
  repeat (first | refine Ops.pure T rfl (by decide) rfl ?_)
  refine Ops.call ((laws_zzFits12 I xs v hS)) rfl (by decide) Proofs.Tryz.call17 rfl ?_
  rintro _ J0 l0 ⟨b0, rfl, hfit⟩
  cases b0 with
  | false =>
    repeat (first | refine Run.seq ?_ | refine Run.region ?_ | refine Ops.nil ?_ | refine Run.cond_t rfl ?_ | refine Ops.not rfl (by decide) ?_ | refine Ops.pure T rfl (by decide) rfl ?_)
    refine Run.fin (Run.ret1 (by rw [hCf]; exact Proofs.Tryz.func9) Proofs.Tryz.results9 rfl (hR _ _ _ ?_))
    exact ⟨rfl, rfl⟩
  | true =>
  obtain ⟨f1, f2⟩ := hfit rfl
  repeat (first | refine Ops.nil ?_ | refine Ops.gtr rfl (by decide) rfl rfl ?_ | refine Ops.pure T rfl (by decide) rfl ?_ | refine Ops.lenS T rfl (by decide) rfl rfl ?_)
  cases c1 : decide ((2147483647 : Int) < id.length) with
  | true =>
    repeat (first | refine Run.seq ?_ | refine Run.region ?_ | refine Ops.nil ?_ | refine Run.cond_t rfl ?_ | refine Ops.pure T rfl (by decide) rfl ?_)
    refine Run.fin (Run.ret1 (by rw [hCf]; exact Proofs.Tryz.func9) Proofs.Tryz.results9 rfl (hR _ _ _ ?_))
    exact ⟨rfl, rfl⟩
  | false =>
  have c1' := of_decide_eq_false c1
  replace hS := hS.mono l0
  clear l0
  repeat (first | refine Run.seq ?_ | refine Run.region ?_ | refine Ops.nil ?_ | refine Run.skip ?_ | refine Run.cond_f rfl ?_ | refine Ops.pure T rfl (by decide) rfl ?_)
  refine Ops.lenSl (hS) rfl (by decide) rfl (T.undOk rfl) ?_
  repeat (first | refine Ops.nil ?_ | refine Run.block ?_ | refine Ops.pure T rfl (by decide) rfl ?_)
  refine Run.keep [0, 1, 2, 3, 9, 34, 35, 36] [_, _, _, _, _, _, _, _] rfl ?_
  refine Run.rounds (fun m env L J => ∃ i : Nat, m = xs.length - i ∧ i ≤ xs.length ∧ (∀ x ∈ xs.take i, goodPart x) ∧ (Pa.joinBuf (xs.take i)).length ≤ i * 2147483648 ∧ env = [(0, str reg), (1, v), (2, str id), (3, .bool dg), (9, str (Pa.joinBuf (xs.take i))), (34, v), (35, .int .i64 xs.length), (36, .int .i64 i)] ∧ L = [] ∧ Le J0 J) xs.length ⟨0, by omega, by omega, by simp, by simp [Pa.joinBuf], rfl, rfl, Le.refl _⟩ ?_
  rintro m env L J1 ⟨i, rfl, hi, hgood, hpl, rfl, rfl, hle⟩ ih
  replace hS := hS.mono hle
  repeat (first | refine Run.seq ?_ | refine Run.region ?_ | refine Ops.nil ?_ | refine Ops.lss rfl (by decide) rfl rfl ?_)
  refine Run.cond rfl rfl (fun hlt => ?_) (fun hlt => ?_)
  all_goals (try rw [hlt])
  all_goals (try simp only [decide_eq_true_eq, decide_eq_false_iff_not, Bool.not_eq_true', Bool.not_eq_false', Bool.and_eq_true, Bool.or_eq_true, Bool.and_eq_false_imp, Bool.or_eq_false_iff] at hlt)
  · skip
    repeat (first | refine Run.seq ?_ | refine Run.region ?_ | refine Run.skip ?_ | refine Run.block ?_ | refine Ops.pure T rfl (by decide) rfl ?_)
    refine Ops.indexSl hS rfl (by decide) rfl rfl (T.undOk rfl) (T.sizeOk rfl) (by first | omega | (simp only [List.length_cons, List.length_nil] ; omega) | (simp; omega)) (by first | omega | (simp only [List.length_cons, List.length_nil] ; omega) | (simp; omega)) ?_
    rintro b_ off_ x cs_ hx hr_ hA_
    obtain rfl : cs_ = [_] := hr_
    refine Ops.loadI rfl (by decide) rfl hA_ (T.aggOk rfl) ?_
    rw [Int.toNat_natCast] at hx
    have hxm : x ∈ xs := List.mem_of_getElem? hx
    have hxl := f2 x hxm
    repeat (first | refine Run.seq ?_ | refine Run.region ?_ | refine Ops.nil ?_ | refine Ops.pure T rfl (by decide) rfl ?_)
    refine Ops.call ((laws_partGood J1 x (by omega))) rfl (by decide) Proofs.Tryz.call18 rfl ?_
    rintro _ J2 l2 rfl
    cases hg : gp x with
    | false =>
      repeat (first | refine Run.seq ?_ | refine Run.region ?_ | refine Ops.nil ?_ | refine Run.cond_t rfl ?_ | refine Ops.pure T rfl (by decide) rfl ?_)
      refine Ops.call ((laws_nameAwake _)) rfl (by decide) Proofs.Tryz.call14 rfl ?_
      rintro _ Jz lz rfl
      repeat (first | refine Ops.nil ?_ | refine Ops.pure T rfl (by decide) rfl ?_)
      refine Run.fin (Run.ret1 (by rw [hCf]; exact Proofs.Tryz.func9) Proofs.Tryz.results9 rfl (hR _ _ _ ?_))
      exact ⟨rfl, rfl⟩
    | true =>
    have hgx := gp_good hg
    have hgood2 : ∀ y ∈ xs.take (i + 1), goodPart y := by
      intro y hy
      rw [List.take_add_one, hx] at hy
      rcases List.mem_append.1 hy with hy | hy
      · exact hgood y hy
      · simp at hy; subst hy; exact hgx
    have hjs := Pa.joinBuf_take_succ xs i x hx
    repeat (first | refine Run.seq ?_ | refine Run.region ?_ | refine Ops.nil ?_ | refine Run.skip ?_ | refine Run.cond_f rfl ?_ | refine Ops.gtr rfl (by decide) rfl rfl ?_ | refine Ops.pure T rfl (by decide) rfl ?_)
    cases hi0 : decide ((0 : Int) < (i : Int)) with
    | true =>
      have hi0' := of_decide_eq_true hi0
      have hbn : Pa.joinBuf (xs.take i) ≠ [] := (joinBuf_els (by intro e; have := congrArg List.length e; simp only [List.length_take, List.length_nil] at this; omega) hgood).2
      have hjs2 : Pa.joinBuf (xs.take (i + 1)) = Pa.joinBuf (xs.take i) ++ [47] ++ x := by rw [hjs]; unfold Pa.joinStep; rw [if_neg hbn]; simp
      have hlen2 : (Pa.joinBuf (xs.take (i + 1))).length ≤ (i + 1) * 2147483648 := by rw [hjs2]; simp; omega
      repeat (first | refine Run.region ?_ | refine Ops.nil ?_ | refine Run.inBlock ?_ | refine Run.cond_t rfl ?_ | refine Ops.add rfl (by decide) rfl rfl (wI (by first | omega | (simp only [List.length_cons, List.length_nil] ; omega) | (simp; omega)) (by first | omega | (simp only [List.length_cons, List.length_nil] ; omega) | (simp; omega))) ?_ | refine Ops.cat rfl (by decide) rfl rfl (by first | omega | (simp only [List.length_cons, List.length_nil] ; omega) | (simp; omega)) ?_ | refine Ops.pure T rfl (by decide) rfl ?_)
      refine Run.keep [0, 1, 2, 3, 9, 34, 35, 36] [_, _, _, _, _, _, _, _] rfl ?_
      refine ih (xs.length - (i + 1)) _ _ _ (by omega) ⟨i + 1, rfl, by omega, hgood2, hlen2, ?_, rfl, hle.trans l2⟩
      rw [hjs2]
      rfl
    | false =>
      have hi0' := of_decide_eq_false hi0
      have hi00 : i = 0 := by omega
      subst hi00
      have hjs2 : Pa.joinBuf (xs.take (0 + 1)) = Pa.joinBuf (xs.take 0) ++ x := by rw [hjs]; rfl
      have hlen2 : (Pa.joinBuf (xs.take (0 + 1))).length ≤ (0 + 1) * 2147483648 := by rw [hjs2]; simp [Pa.joinBuf]; omega
      repeat (first | refine Run.region ?_ | refine Ops.nil ?_ | refine Run.skip ?_ | refine Run.inBlock ?_ | refine Run.cond_f rfl ?_ | refine Ops.add rfl (by decide) rfl rfl (wI (by first | omega | (simp only [List.length_cons, List.length_nil] ; omega) | (simp; omega)) (by first | omega | (simp only [List.length_cons, List.length_nil] ; omega) | (simp; omega))) ?_ | refine Ops.cat rfl (by decide) rfl rfl (by first | omega | (simp only [List.length_cons, List.length_nil] ; omega) | (simp; omega)) ?_ | refine Ops.pure T rfl (by decide) rfl ?_)
      refine Run.keep [0, 1, 2, 3, 9, 34, 35, 36] [_, _, _, _, _, _, _, _] rfl ?_
      refine ih (xs.length - (0 + 1)) _ _ _ (by omega) ⟨0 + 1, rfl, by omega, hgood2, hlen2, ?_, rfl, hle.trans l2⟩
      rw [hjs2]
      rfl
  · have : i = xs.length := by omega
    subst this
    rw [List.take_length] at hgood hpl ⊢
    clear ih
    repeat (first | refine Run.seq ?_ | refine Run.region ?_ | refine Ops.nil ?_ | refine Run.exit rfl ?_ | refine Ops.cat rfl (by decide) rfl rfl (by first | omega | (simp only [List.length_cons, List.length_nil] ; omega) | (simp; omega)) ?_ | refine Ops.pure T rfl (by decide) rfl ?_)
    cases dg with
    | true =>
      have etx : reg ++ [47] ++ Pa.joinBuf xs ++ ([64] ++ id) = repoT reg (Pa.joinBuf xs) ++ [64] ++ id := by simp [repoT]
      repeat (first | refine Run.seq ?_ | refine Run.region ?_ | refine Ops.nil ?_ | refine Run.cond_t rfl ?_ | refine Ops.cat rfl (by decide) rfl rfl (by first | omega | (simp only [List.length_cons, List.length_nil] ; omega) | (simp; omega)) ?_ | refine Ops.pure T rfl (by decide) rfl ?_)
      rw [etx]
      have htl : (repoT reg (Pa.joinBuf xs) ++ [64] ++ id).length = reg.length + (Pa.joinBuf xs).length + id.length + 2 := by simp [repoT]; omega
      generalize htx : repoT reg (Pa.joinBuf xs) ++ [64] ++ id = text at *
      clear etx
      refine Ops.buildL bd30 rfl (by decide) rfl rfl ?_
      refine Ops.call ((spec_NameRead J1 text 4 ⟨false, false, [], []⟩ (by omega) (.inl rfl) (by decide) (by decide))) rfl (by decide) Proofs.Tryz.call13 rfl ?_
      rintro _ J2 l2 rfl
      unfold nrV
      rcases hsp : sParts ⟨false, false, [], []⟩ 4 text with ⟨k, r, p, t, ok, op⟩
      have hread : sRead ⟨false, false, [], []⟩ 4 text = if !ok || op then (Nm.zero, ok, op) else (nmd (false || localF r) k r p t text, true, false) := by unfold sRead; rw [hsp]; rfl
      cases op with
      | true =>
        have hread2 : sRead ⟨false, false, [], []⟩ 4 text = (Nm.zero, ok, true) := by rw [hread]; cases ok <;> rfl
        rw [hread2]
        repeat (first | refine Ops.pure T rfl (by decide) rfl ?_)
        refine Ops.alloc rfl (by decide) (T.zeroOk rfl) rfl (fun b1 => ?_)
        repeat (first | refine Run.seq ?_ | refine Run.region ?_ | refine Ops.nil ?_ | refine Ops.pure T rfl (by decide) rfl ?_ | refine Ops.store 0 rfl rfl rfl rfl rfl (T.sizeOk rfl) rfl (Nat.le_of_ble_eq_true rfl) rfl rfl ?_)
        cases ok with
        | true =>
          repeat (first | refine Run.seq ?_ | refine Run.region ?_ | refine Ops.nil ?_ | refine Run.cond_t rfl ?_ | refine Ops.not rfl (by decide) ?_ | refine Ops.pure T rfl (by decide) rfl ?_)
          refine Ops.call ((laws_nameAwake _)) rfl (by decide) Proofs.Tryz.call14 rfl ?_
          rintro _ Jz lz rfl
          repeat (first | refine Ops.nil ?_ | refine Ops.pure T rfl (by decide) rfl ?_)
          refine Run.fin (Run.ret1 (by rw [hCf]; exact Proofs.Tryz.func9) Proofs.Tryz.results9 rfl (hR _ _ _ ?_))
          exact ⟨rfl, rfl⟩
        | false =>
          repeat (first | refine Run.seq ?_ | refine Run.region ?_ | refine Ops.nil ?_ | refine Run.cond_t rfl ?_ | refine Ops.not rfl (by decide) ?_ | refine Ops.pure T rfl (by decide) rfl ?_)
          refine Ops.call ((laws_nameAwake _)) rfl (by decide) Proofs.Tryz.call14 rfl ?_
          rintro _ Jz lz rfl
          repeat (first | refine Ops.nil ?_ | refine Ops.pure T rfl (by decide) rfl ?_)
          refine Run.fin (Run.ret1 (by rw [hCf]; exact Proofs.Tryz.func9) Proofs.Tryz.results9 rfl (hR _ _ _ ?_))
          exact ⟨rfl, rfl⟩
      | false =>
      cases ok with
      | false =>
        have hread2 : sRead ⟨false, false, [], []⟩ 4 text = (Nm.zero, false, false) := by rw [hread]; rfl
        rw [hread2]
        repeat (first | refine Ops.pure T rfl (by decide) rfl ?_)
        refine Ops.alloc rfl (by decide) (T.zeroOk rfl) rfl (fun b1 => ?_)
        repeat (first | refine Run.seq ?_ | refine Run.region ?_ | refine Ops.nil ?_ | refine Run.cond_t rfl ?_ | refine Ops.not rfl (by decide) ?_ | refine Ops.pure T rfl (by decide) rfl ?_ | refine Ops.store 0 rfl rfl rfl rfl rfl (T.sizeOk rfl) rfl (Nat.le_of_ble_eq_true rfl) rfl rfl ?_)
        refine Ops.call ((laws_nameAwake _)) rfl (by decide) Proofs.Tryz.call14 rfl ?_
        rintro _ Jz lz rfl
        repeat (first | refine Ops.nil ?_ | refine Ops.pure T rfl (by decide) rfl ?_)
        refine Run.fin (Run.ret1 (by rw [hCf]; exact Proofs.Tryz.func9) Proofs.Tryz.results9 rfl (hR _ _ _ ?_))
        exact ⟨rfl, rfl⟩
      | true =>
      have hread2 : sRead ⟨false, false, [], []⟩ 4 text = (nmd (false || localF r) k r p t text, true, false) := by rw [hread]; rfl
      rw [hread2]
      have hhn := spec_HostNamed J2 reg (by omega)
      cases hh : hostNamed reg with
      | false =>
        rw [hh] at hhn
        repeat (first | refine Ops.pure T rfl (by decide) rfl ?_)
        refine Ops.alloc rfl (by decide) (T.zeroOk rfl) rfl (fun b1 => ?_)
        repeat (first | refine Run.seq ?_ | refine Run.region ?_ | refine Ops.nil ?_ | refine Ops.pure T rfl (by decide) rfl ?_ | refine Ops.store 0 rfl rfl rfl rfl rfl (T.sizeOk rfl) rfl (Nat.le_of_ble_eq_true rfl) rfl rfl ?_)
        refine Ops.call (hhn) rfl (by decide) Proofs.Tryz.call15 rfl ?_
        rintro _ J3 l3 rfl
        repeat (first | refine Run.seq ?_ | refine Run.region ?_ | refine Ops.nil ?_ | refine Run.cond_t rfl ?_ | refine Ops.not rfl (by decide) ?_ | refine Ops.pure T rfl (by decide) rfl ?_)
        refine Ops.call ((laws_nameAwake _)) rfl (by decide) Proofs.Tryz.call14 rfl ?_
        rintro _ Jz lz rfl
        repeat (first | refine Ops.nil ?_ | refine Ops.pure T rfl (by decide) rfl ?_)
        refine Run.fin (Run.ret1 (by rw [hCf]; exact Proofs.Tryz.func9) Proofs.Tryz.results9 rfl (hR _ _ _ ?_))
        exact ⟨rfl, rfl⟩
      | true =>
      rw [hh] at hhn
      obtain ⟨rfl, hs⟩ := parts4 hsp
      rw [← htx] at hs
      obtain ⟨rfl, rfl, rfl⟩ := made_dig hh (joinBuf_chars hgood) hs
      obtain ⟨a1, a2, a3⟩ := named_alias hh
      have hsch : loose (aliasT reg) = false → schemeT (pHttp (aliasT reg)) = schemeT (localF (aliasT reg)) := fun hl => by rw [http_eq a1 hl]
      have hS2 := hS.mono l2
      have hm3 := fun J (hS : Sl tStr J v xs) hne hl hid => impl_NameMade J reg t xs v 4 hS hgood hne hh hl hid (by decide)
      have hm2 := fun J (hS : Sl tStr J v xs) hne hl => impl_NameMade J reg [] xs v 2 hS hgood hne hh hl (by decide) (by decide)
      rw [show nmd (false || localF (aliasT reg)) 4 (aliasT reg) (fullP (aliasT reg) (Pa.joinBuf xs)) t text = Nm.mk 4 (aliasT reg) (fullP (aliasT reg) (Pa.joinBuf xs)) t (repoT (aliasT reg) (fullP (aliasT reg) (Pa.joinBuf xs)) ++ [64] ++ t) text (schemeT (localF (aliasT reg))) (scopeT (fullP (aliasT reg) (Pa.joinBuf xs))) (repoT (aliasT reg) (fullP (aliasT reg) (Pa.joinBuf xs))) (repoT (aliasT reg) (fullP (aliasT reg) (Pa.joinBuf xs))) (aliasT reg) from rfl]
      clear hsp hs hread hread2 htx
      generalize fullP (aliasT reg) (Pa.joinBuf xs) = Q at *
      generalize aliasT reg = R at *
      repeat (first | refine Ops.pure T rfl (by decide) rfl ?_)
      refine Ops.alloc rfl (by decide) (T.zeroOk rfl) rfl (fun b1 => ?_)
      repeat (first | refine Run.seq ?_ | refine Run.region ?_ | refine Ops.nil ?_ | refine Ops.pure T rfl (by decide) rfl ?_ | refine Ops.store 0 rfl rfl rfl rfl rfl (T.sizeOk rfl) rfl (Nat.le_of_ble_eq_true rfl) rfl rfl ?_)
      refine Ops.call (hhn) rfl (by decide) Proofs.Tryz.call15 rfl ?_
      rintro _ J3 l3 rfl
      repeat (first | refine Ops.gtr rfl (by decide) rfl rfl ?_ | refine Ops.pure T rfl (by decide) rfl ?_ | refine Ops.lenS T rfl (by decide) rfl rfl ?_)
      cases h1 : decide ((1000 : Int) < text.length) with
      | true =>
        repeat (first | refine Run.seq ?_ | refine Run.region ?_ | refine Ops.nil ?_ | refine Run.cond_t rfl ?_ | refine Ops.not rfl (by decide) ?_ | refine Ops.pure T rfl (by decide) rfl ?_)
        refine Ops.call ((laws_nameAwake _)) rfl (by decide) Proofs.Tryz.call14 rfl ?_
        rintro _ Jz lz rfl
        repeat (first | refine Ops.nil ?_ | refine Ops.pure T rfl (by decide) rfl ?_)
        refine Run.fin (Run.ret1 (by rw [hCf]; exact Proofs.Tryz.func9) Proofs.Tryz.results9 rfl (hR _ _ _ ?_))
        exact ⟨rfl, rfl⟩
      | false =>
      have h1' := of_decide_eq_false h1
      repeat (first | refine Ops.pure T rfl (by decide) rfl ?_)
      refine Ops.lenSl (hS2.mono l3) rfl (by decide) rfl (T.undOk rfl) ?_
      repeat (first | refine Ops.nil ?_ | refine Ops.eql rfl (by decide) rfl rfl ?_ | refine Ops.pure T rfl (by decide) rfl ?_)
      cases h2 : decide ((xs.length : Int) = 0) with
      | true =>
        repeat (first | refine Run.seq ?_ | refine Run.region ?_ | refine Run.cond_t rfl ?_)
        refine Ops.call ((laws_nameAwake _)) rfl (by decide) Proofs.Tryz.call14 rfl ?_
        rintro _ Jz lz rfl
        repeat (first | refine Ops.nil ?_ | refine Ops.pure T rfl (by decide) rfl ?_)
        refine Run.fin (Run.ret1 (by rw [hCf]; exact Proofs.Tryz.func9) Proofs.Tryz.results9 rfl (hR _ _ _ ?_))
        exact ⟨rfl, rfl⟩
      | false =>
      have hne : xs ≠ [] := fun e => by subst e; simp at h2
      repeat (first | refine Run.seq ?_ | refine Run.region ?_ | refine Run.skip ?_ | refine Run.cond_f rfl ?_ | refine Ops.pure T rfl (by decide) rfl ?_)
      refine Ops.call ((hm3 J3 (hS2.mono l3) hne (by omega) (by omega))) rfl (by decide) Proofs.Tryz.call19 rfl ?_
      rintro _ J4 l4 ⟨t1, rfl⟩
      rw [show nmd (pHttp R) 4 R Q (if (4 : Int) = 2 then [] else t) t1 = Nm.mk 4 R Q t (repoT R Q ++ [64] ++ t) t1 (schemeT (pHttp R)) (scopeT Q) (repoT R Q) (repoT R Q) R from rfl]
      repeat (first | refine Ops.pure T rfl (by decide) rfl ?_)
      refine Ops.alloc rfl (by decide) (T.zeroOk rfl) rfl (fun b2 => ?_)
      repeat (first | refine Run.seq ?_ | refine Run.region ?_ | refine Ops.nil ?_ | refine Ops.pure T rfl (by decide) rfl ?_ | refine Ops.store 0 rfl rfl rfl rfl rfl (T.sizeOk rfl) rfl (Nat.le_of_ble_eq_true rfl) rfl rfl ?_)
      refine Ops.call ((hm2 J4 ((hS2.mono l3).mono l4) hne (by omega))) rfl (by decide) Proofs.Tryz.call19 rfl ?_
      rintro _ J5 l5 ⟨t2, rfl⟩
      rw [show nmd (pHttp R) 2 R Q (if (2 : Int) = 2 then [] else []) t2 = Nm.mk 2 R Q [] (repoT R Q) (repoT R Q) (schemeT (pHttp R)) (scopeT Q) [] [] [] from rfl]
      repeat (first | refine Ops.pure T rfl (by decide) rfl ?_)
      refine Ops.alloc rfl (by decide) (T.zeroOk rfl) rfl (fun b3 => ?_)
      repeat (first | refine Run.seq ?_ | refine Run.region ?_ | refine Ops.nil ?_ | refine Ops.pure T rfl (by decide) rfl ?_ | refine Ops.loadN 1 rfl (by decide) rfl rfl (T.aggOk rfl) (T.sizeOk rfl) rfl rfl ?_ | refine Ops.loadN 2 rfl (by decide) rfl rfl (T.aggOk rfl) (T.sizeOk rfl) rfl rfl ?_ | refine Ops.store 0 rfl rfl rfl rfl rfl (T.sizeOk rfl) rfl (Nat.le_of_ble_eq_true rfl) rfl rfl ?_ | refine Ops.store 1 rfl rfl rfl rfl rfl (T.sizeOk rfl) rfl (Nat.le_of_ble_eq_true rfl) rfl rfl ?_ | refine Ops.store 2 rfl rfl rfl rfl rfl (T.sizeOk rfl) rfl (Nat.le_of_ble_eq_true rfl) rfl rfl ?_)
      refine Ops.call ((laws_sameName J5 4 R Q t _ [] (schemeT (pHttp R)) (schemeT (localF R)) _ _ _ _ (by omega) hsch)) rfl (by decide) Proofs.Tryz.call20 rfl ?_
      rintro _ J6 l6 rfl
      repeat (first | refine Ops.eqlStr rfl (by decide) rfl rfl ?_ | refine Ops.pure T rfl (by decide) rfl ?_ | refine Ops.load 0 rfl (by decide) rfl rfl (T.aggOk rfl) rfl ?_ | refine Ops.load 2 rfl (by decide) rfl rfl (T.aggOk rfl) rfl ?_)
      rw [decide_eq_true (rfl : repoT R Q = repoT R Q)]
      repeat (first | refine Ops.eqlStr rfl (by decide) rfl rfl ?_ | refine Ops.pure T rfl (by decide) rfl ?_ | refine Ops.load 0 rfl (by decide) rfl rfl (T.aggOk rfl) rfl ?_ | refine Ops.load 2 rfl (by decide) rfl rfl (T.aggOk rfl) rfl ?_)
      rw [decide_eq_true (rfl : Q = Q)]
      skip
      refine Ops.call ((laws_nameAwake _)) rfl (by decide) Proofs.Tryz.call14 rfl ?_
      rintro _ Jz lz rfl
      repeat (first | refine Ops.nil ?_ | refine Ops.pure T rfl (by decide) rfl ?_)
      refine Run.fin (Run.ret1 (by rw [hCf]; exact Proofs.Tryz.func9) Proofs.Tryz.results9 rfl (hR _ _ _ ?_))
      exact ⟨rfl, rfl⟩
    | false =>
      have etx : reg ++ [47] ++ Pa.joinBuf xs ++ ([58] ++ id) = repoT reg (Pa.joinBuf xs) ++ [58] ++ id := by simp [repoT]
      repeat (first | refine Run.seq ?_ | refine Run.region ?_ | refine Ops.nil ?_ | refine Run.cond_f rfl ?_ | refine Ops.cat rfl (by decide) rfl rfl (by first | omega | (simp only [List.length_cons, List.length_nil] ; omega) | (simp; omega)) ?_ | refine Ops.pure T rfl (by decide) rfl ?_)
      rw [etx]
      have htl : (repoT reg (Pa.joinBuf xs) ++ [58] ++ id).length = reg.length + (Pa.joinBuf xs).length + id.length + 2 := by simp [repoT]; omega
      generalize htx : repoT reg (Pa.joinBuf xs) ++ [58] ++ id = text at *
      clear etx
      refine Ops.buildL bd30 rfl (by decide) rfl rfl ?_
      refine Ops.call ((spec_NameRead J1 text 3 ⟨false, false, [], []⟩ (by omega) (.inl rfl) (by decide) (by decide))) rfl (by decide) Proofs.Tryz.call13 rfl ?_
      rintro _ J2 l2 rfl
      unfold nrV
      rcases hsp : sParts ⟨false, false, [], []⟩ 3 text with ⟨k, r, p, t, ok, op⟩
      have hread : sRead ⟨false, false, [], []⟩ 3 text = if !ok || op then (Nm.zero, ok, op) else (nmd (false || localF r) k r p t text, true, false) := by unfold sRead; rw [hsp]; rfl
      cases op with
      | true =>
        have hread2 : sRead ⟨false, false, [], []⟩ 3 text = (Nm.zero, ok, true) := by rw [hread]; cases ok <;> rfl
        rw [hread2]
        repeat (first | refine Ops.pure T rfl (by decide) rfl ?_)
        refine Ops.alloc rfl (by decide) (T.zeroOk rfl) rfl (fun b1 => ?_)
        repeat (first | refine Run.seq ?_ | refine Run.region ?_ | refine Ops.nil ?_ | refine Ops.pure T rfl (by decide) rfl ?_ | refine Ops.store 0 rfl rfl rfl rfl rfl (T.sizeOk rfl) rfl (Nat.le_of_ble_eq_true rfl) rfl rfl ?_)
        cases ok with
        | true =>
          repeat (first | refine Run.seq ?_ | refine Run.region ?_ | refine Ops.nil ?_ | refine Run.cond_t rfl ?_ | refine Ops.not rfl (by decide) ?_ | refine Ops.pure T rfl (by decide) rfl ?_)
          refine Ops.call ((laws_nameAwake _)) rfl (by decide) Proofs.Tryz.call14 rfl ?_
          rintro _ Jz lz rfl
          repeat (first | refine Ops.nil ?_ | refine Ops.pure T rfl (by decide) rfl ?_)
          refine Run.fin (Run.ret1 (by rw [hCf]; exact Proofs.Tryz.func9) Proofs.Tryz.results9 rfl (hR _ _ _ ?_))
          exact ⟨rfl, rfl⟩
        | false =>
          repeat (first | refine Run.seq ?_ | refine Run.region ?_ | refine Ops.nil ?_ | refine Run.cond_t rfl ?_ | refine Ops.not rfl (by decide) ?_ | refine Ops.pure T rfl (by decide) rfl ?_)
          refine Ops.call ((laws_nameAwake _)) rfl (by decide) Proofs.Tryz.call14 rfl ?_
          rintro _ Jz lz rfl
          repeat (first | refine Ops.nil ?_ | refine Ops.pure T rfl (by decide) rfl ?_)
          refine Run.fin (Run.ret1 (by rw [hCf]; exact Proofs.Tryz.func9) Proofs.Tryz.results9 rfl (hR _ _ _ ?_))
          exact ⟨rfl, rfl⟩
      | false =>
      cases ok with
      | false =>
        have hread2 : sRead ⟨false, false, [], []⟩ 3 text = (Nm.zero, false, false) := by rw [hread]; rfl
        rw [hread2]
        repeat (first | refine Ops.pure T rfl (by decide) rfl ?_)
        refine Ops.alloc rfl (by decide) (T.zeroOk rfl) rfl (fun b1 => ?_)
        repeat (first | refine Run.seq ?_ | refine Run.region ?_ | refine Ops.nil ?_ | refine Run.cond_t rfl ?_ | refine Ops.not rfl (by decide) ?_ | refine Ops.pure T rfl (by decide) rfl ?_ | refine Ops.store 0 rfl rfl rfl rfl rfl (T.sizeOk rfl) rfl (Nat.le_of_ble_eq_true rfl) rfl rfl ?_)
        refine Ops.call ((laws_nameAwake _)) rfl (by decide) Proofs.Tryz.call14 rfl ?_
        rintro _ Jz lz rfl
        repeat (first | refine Ops.nil ?_ | refine Ops.pure T rfl (by decide) rfl ?_)
        refine Run.fin (Run.ret1 (by rw [hCf]; exact Proofs.Tryz.func9) Proofs.Tryz.results9 rfl (hR _ _ _ ?_))
        exact ⟨rfl, rfl⟩
      | true =>
      have hread2 : sRead ⟨false, false, [], []⟩ 3 text = (nmd (false || localF r) k r p t text, true, false) := by rw [hread]; rfl
      rw [hread2]
      have hhn := spec_HostNamed J2 reg (by omega)
      cases hh : hostNamed reg with
      | false =>
        rw [hh] at hhn
        repeat (first | refine Ops.pure T rfl (by decide) rfl ?_)
        refine Ops.alloc rfl (by decide) (T.zeroOk rfl) rfl (fun b1 => ?_)
        repeat (first | refine Run.seq ?_ | refine Run.region ?_ | refine Ops.nil ?_ | refine Ops.pure T rfl (by decide) rfl ?_ | refine Ops.store 0 rfl rfl rfl rfl rfl (T.sizeOk rfl) rfl (Nat.le_of_ble_eq_true rfl) rfl rfl ?_)
        refine Ops.call (hhn) rfl (by decide) Proofs.Tryz.call15 rfl ?_
        rintro _ J3 l3 rfl
        repeat (first | refine Run.seq ?_ | refine Run.region ?_ | refine Ops.nil ?_ | refine Run.cond_t rfl ?_ | refine Ops.not rfl (by decide) ?_ | refine Ops.pure T rfl (by decide) rfl ?_)
        refine Ops.call ((laws_nameAwake _)) rfl (by decide) Proofs.Tryz.call14 rfl ?_
        rintro _ Jz lz rfl
        repeat (first | refine Ops.nil ?_ | refine Ops.pure T rfl (by decide) rfl ?_)
        refine Run.fin (Run.ret1 (by rw [hCf]; exact Proofs.Tryz.func9) Proofs.Tryz.results9 rfl (hR _ _ _ ?_))
        exact ⟨rfl, rfl⟩
      | true =>
      rw [hh] at hhn
      obtain ⟨rfl, hs⟩ := parts3 hsp
      rw [← htx] at hs
      obtain ⟨rfl, rfl, rfl⟩ := made_tag hh (joinBuf_chars hgood) hs
      obtain ⟨a1, a2, a3⟩ := named_alias hh
      have hsch : loose (aliasT reg) = false → schemeT (pHttp (aliasT reg)) = schemeT (localF (aliasT reg)) := fun hl => by rw [http_eq a1 hl]
      have hS2 := hS.mono l2
      have hm3 := fun J (hS : Sl tStr J v xs) hne hl hid => impl_NameMade J reg t xs v 3 hS hgood hne hh hl hid (by decide)
      have hm2 := fun J (hS : Sl tStr J v xs) hne hl => impl_NameMade J reg [] xs v 2 hS hgood hne hh hl (by decide) (by decide)
      rw [show nmd (false || localF (aliasT reg)) 3 (aliasT reg) (fullP (aliasT reg) (Pa.joinBuf xs)) t text = Nm.mk 3 (aliasT reg) (fullP (aliasT reg) (Pa.joinBuf xs)) t (repoT (aliasT reg) (fullP (aliasT reg) (Pa.joinBuf xs)) ++ [58] ++ t) text (schemeT (localF (aliasT reg))) (scopeT (fullP (aliasT reg) (Pa.joinBuf xs))) (repoT (aliasT reg) (fullP (aliasT reg) (Pa.joinBuf xs))) (repoT (aliasT reg) (fullP (aliasT reg) (Pa.joinBuf xs))) (aliasT reg) from rfl]
      clear hsp hs hread hread2 htx
      generalize fullP (aliasT reg) (Pa.joinBuf xs) = Q at *
      generalize aliasT reg = R at *
      repeat (first | refine Ops.pure T rfl (by decide) rfl ?_)
      refine Ops.alloc rfl (by decide) (T.zeroOk rfl) rfl (fun b1 => ?_)
      repeat (first | refine Run.seq ?_ | refine Run.region ?_ | refine Ops.nil ?_ | refine Ops.pure T rfl (by decide) rfl ?_ | refine Ops.store 0 rfl rfl rfl rfl rfl (T.sizeOk rfl) rfl (Nat.le_of_ble_eq_true rfl) rfl rfl ?_)
      refine Ops.call (hhn) rfl (by decide) Proofs.Tryz.call15 rfl ?_
      rintro _ J3 l3 rfl
      repeat (first | refine Ops.gtr rfl (by decide) rfl rfl ?_ | refine Ops.pure T rfl (by decide) rfl ?_ | refine Ops.lenS T rfl (by decide) rfl rfl ?_)
      cases h1 : decide ((1000 : Int) < text.length) with
      | true =>
        repeat (first | refine Run.seq ?_ | refine Run.region ?_ | refine Ops.nil ?_ | refine Run.cond_t rfl ?_ | refine Ops.not rfl (by decide) ?_ | refine Ops.pure T rfl (by decide) rfl ?_)
        refine Ops.call ((laws_nameAwake _)) rfl (by decide) Proofs.Tryz.call14 rfl ?_
        rintro _ Jz lz rfl
        repeat (first | refine Ops.nil ?_ | refine Ops.pure T rfl (by decide) rfl ?_)
        refine Run.fin (Run.ret1 (by rw [hCf]; exact Proofs.Tryz.func9) Proofs.Tryz.results9 rfl (hR _ _ _ ?_))
        exact ⟨rfl, rfl⟩
      | false =>
      have h1' := of_decide_eq_false h1
      repeat (first | refine Ops.pure T rfl (by decide) rfl ?_)
      refine Ops.lenSl (hS2.mono l3) rfl (by decide) rfl (T.undOk rfl) ?_
      repeat (first | refine Ops.nil ?_ | refine Ops.eql rfl (by decide) rfl rfl ?_ | refine Ops.pure T rfl (by decide) rfl ?_)
      cases h2 : decide ((xs.length : Int) = 0) with
      | true =>
        repeat (first | refine Run.seq ?_ | refine Run.region ?_ | refine Run.cond_t rfl ?_)
        refine Ops.call ((laws_nameAwake _)) rfl (by decide) Proofs.Tryz.call14 rfl ?_
        rintro _ Jz lz rfl
        repeat (first | refine Ops.nil ?_ | refine Ops.pure T rfl (by decide) rfl ?_)
        refine Run.fin (Run.ret1 (by rw [hCf]; exact Proofs.Tryz.func9) Proofs.Tryz.results9 rfl (hR _ _ _ ?_))
        exact ⟨rfl, rfl⟩
      | false =>
      have hne : xs ≠ [] := fun e => by subst e; simp at h2
      repeat (first | refine Run.seq ?_ | refine Run.region ?_ | refine Run.skip ?_ | refine Run.cond_f rfl ?_ | refine Ops.pure T rfl (by decide) rfl ?_)
      refine Ops.call ((hm3 J3 (hS2.mono l3) hne (by omega) (by omega))) rfl (by decide) Proofs.Tryz.call19 rfl ?_
      rintro _ J4 l4 ⟨t1, rfl⟩
      rw [show nmd (pHttp R) 3 R Q (if (3 : Int) = 2 then [] else t) t1 = Nm.mk 3 R Q t (repoT R Q ++ [58] ++ t) t1 (schemeT (pHttp R)) (scopeT Q) (repoT R Q) (repoT R Q) R from rfl]
      repeat (first | refine Ops.pure T rfl (by decide) rfl ?_)
      refine Ops.alloc rfl (by decide) (T.zeroOk rfl) rfl (fun b2 => ?_)
      repeat (first | refine Run.seq ?_ | refine Run.region ?_ | refine Ops.nil ?_ | refine Ops.pure T rfl (by decide) rfl ?_ | refine Ops.store 0 rfl rfl rfl rfl rfl (T.sizeOk rfl) rfl (Nat.le_of_ble_eq_true rfl) rfl rfl ?_)
      refine Ops.call ((hm2 J4 ((hS2.mono l3).mono l4) hne (by omega))) rfl (by decide) Proofs.Tryz.call19 rfl ?_
      rintro _ J5 l5 ⟨t2, rfl⟩
      rw [show nmd (pHttp R) 2 R Q (if (2 : Int) = 2 then [] else []) t2 = Nm.mk 2 R Q [] (repoT R Q) (repoT R Q) (schemeT (pHttp R)) (scopeT Q) [] [] [] from rfl]
      repeat (first | refine Ops.pure T rfl (by decide) rfl ?_)
      refine Ops.alloc rfl (by decide) (T.zeroOk rfl) rfl (fun b3 => ?_)
      repeat (first | refine Run.seq ?_ | refine Run.region ?_ | refine Ops.nil ?_ | refine Ops.pure T rfl (by decide) rfl ?_ | refine Ops.loadN 1 rfl (by decide) rfl rfl (T.aggOk rfl) (T.sizeOk rfl) rfl rfl ?_ | refine Ops.loadN 2 rfl (by decide) rfl rfl (T.aggOk rfl) (T.sizeOk rfl) rfl rfl ?_ | refine Ops.store 0 rfl rfl rfl rfl rfl (T.sizeOk rfl) rfl (Nat.le_of_ble_eq_true rfl) rfl rfl ?_ | refine Ops.store 1 rfl rfl rfl rfl rfl (T.sizeOk rfl) rfl (Nat.le_of_ble_eq_true rfl) rfl rfl ?_ | refine Ops.store 2 rfl rfl rfl rfl rfl (T.sizeOk rfl) rfl (Nat.le_of_ble_eq_true rfl) rfl rfl ?_)
      refine Ops.call ((laws_sameName J5 3 R Q t _ [] (schemeT (pHttp R)) (schemeT (localF R)) _ _ _ _ (by omega) hsch)) rfl (by decide) Proofs.Tryz.call20 rfl ?_
      rintro _ J6 l6 rfl
      repeat (first | refine Ops.eqlStr rfl (by decide) rfl rfl ?_ | refine Ops.pure T rfl (by decide) rfl ?_ | refine Ops.load 0 rfl (by decide) rfl rfl (T.aggOk rfl) rfl ?_ | refine Ops.load 2 rfl (by decide) rfl rfl (T.aggOk rfl) rfl ?_)
      rw [decide_eq_true (rfl : repoT R Q = repoT R Q)]
      repeat (first | refine Ops.eqlStr rfl (by decide) rfl rfl ?_ | refine Ops.pure T rfl (by decide) rfl ?_ | refine Ops.load 0 rfl (by decide) rfl rfl (T.aggOk rfl) rfl ?_ | refine Ops.load 2 rfl (by decide) rfl rfl (T.aggOk rfl) rfl ?_)
      rw [decide_eq_true (rfl : Q = Q)]
      skip
      refine Ops.call ((laws_nameAwake _)) rfl (by decide) Proofs.Tryz.call14 rfl ?_
      rintro _ Jz lz rfl
      repeat (first | refine Ops.nil ?_ | refine Ops.pure T rfl (by decide) rfl ?_)
      refine Run.fin (Run.ret1 (by rw [hCf]; exact Proofs.Tryz.func9) Proofs.Tryz.results9 rfl (hR _ _ _ ?_))
      exact ⟨rfl, rfl⟩
end Go.V
