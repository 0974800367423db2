import Derived.Test.YtcegjgmmbbojdaaGreatDoorAW
import Derived.Test.YtcegjgmmbbojdaaGreatDoorAM21
import Derived.Test.YtcegjgmmbbojdaaGreatDoorAM22
import Derived.Test.YtcegjgmmbbojdaaGreatDoorAM20
import Derived.Test.YtcegjgmmbbojdaaGreatDoorAM17
import Derived.Test.YtcegjgmmbbojdaaGreatDoorAM4
import Derived.Test.YtcegjgmmbbojdaaGreatDoorAM3
import Derived.Lib.LaidU8T
set_option linter.unusedVariables false
set_option linter.unusedSimpArgs false
namespace Go.V
open Go.Proofs.Tryz
open Go.RowKit
set_option maxRecDepth 10000
attribute [local irreducible] Run Ops QD
theorem meth_mfTake : ∀ u w, (method (prog.types.size + Made.depth) 76 u "ZzTake").run prog w = .ok (171, u) w := by intro u w; kernel_rfl
theorem meth_ixT : ∀ u w, (method (prog.types.size + Made.depth) 62 u "ZzTake").run prog w = .ok (95, u) w := by intro u w; kernel_rfl
theorem v1_ParseManifest (I : Imm) (hU : UT I) (s : Bs) (hs : s.length <= 137438953472) (r : Nat) (pr : Int) (a0 : Addr) (hE : At I 2 0 [eofV a0]) (m : Mf) (nn : Bool) (v : JV) (t : Bs) (hr : rdV 10000 s = some (v, t)) (hv : obR mfNames (mfM m nn) (mfE m nn) v) (hg : okMt m) (hc : okDt m.cfg) :
  Spec prog 26 [.iface 67 (.pointer (some ⟨r, 0, none⟩))] I [(r, rdO s 0 pr)] fun w J M => ∃ x mc, w = .tuple #[.pointer (some ⟨x, 0, none⟩), .nilIface] /\ mfV J m nn mc /\ M = [(x, blk mc 85)] := by
 refine Spec.enter 13 [(0, _)] func26 rfl ntmps26 (by simp) rfl ?_
 intro C hCf hR hCI
 refine rS ?_
 refine rO (fun Z hZ => (eE rfl (eE rfl (zN hZ ((rS (Run.region (Ops.buildL bd85 rfl dc rfl rfl (Ops.alloc rfl dc (T.zeroOk rfl) rfl (fun x => (Ops.store 0 rfl rfl rfl rfl rfl (T.sizeOk rfl) rfl (lb rfl) rfl rfl (Ops.nil ?_))))))))))))
 repeat refine rS ?_
 refine rP 2 (fun Z hZ => (eE rfl (eE rfl (zN hZ ((Ops.callP (M := [(r, rdO s 0 pr), (x, _)]) (N := []) (zz_Decode (R := fun J M => ∃ mc, mfV J m nn mc /\ M = [(x, blk mc 85)]) I hU s hs r x pr a0 hE _ 76 171 v t hr meth_mfTake call171 (fun J cs hle hrel => mf_take 10000 J (hU.mono hle) cs v hrel m nn hv hg hc x)) (List.Perm.swap _ _ _) rfl dc call43 rfl ?_))))))
 rintro y J2 M2 l2 ⟨rfl, mc, hmc, rfl⟩
 refine oP rfl (Ops.nil (rS (rO (fun Z hZ => (eE rfl (fE (Ev.neqNil T rfl rfl rfl rfl rfl) (zN hZ ?_)))))))
 repeat (first | refine rS ?_ | refine rK ?_ | refine rF rfl ?_)
 refine rO (fun Z hZ => (eE rfl (eE rfl (zN hZ ?_))))
 skip
 refine Run.ret2 (by rw [hCf]; exact func26) results26 rfl rfl (hR _ _ _ ?_)
 exact ⟨x, mc, rfl, hmc, rfl⟩
theorem v1_ParseIndex (I : Imm) (hU : UT I) (s : Bs) (hs : s.length <= 137438953472) (r : Nat) (pr : Int) (a0 : Addr) (hE : At I 2 0 [eofV a0]) (m : Mf) (nn : Bool) (v : JV) (t : Bs) (hr : rdV 10000 s = some (v, t)) (hv : obR ixNames (ixM m nn) (ixE m nn) v) (hg : okMt m) :
  Spec prog 23 [.iface 67 (.pointer (some ⟨r, 0, none⟩))] I [(r, rdO s 0 pr)] fun w J M => ∃ x mc, w = .tuple #[.pointer (some ⟨x, 0, none⟩), .nilIface] /\ ixV J m nn mc /\ M = [(x, blk mc 75)] := by
 refine Spec.enter 13 [(0, _)] func23 rfl ntmps23 (by simp) rfl ?_
 intro C hCf hR hCI
 refine rS ?_
 refine rO (fun Z hZ => (eE rfl (eE rfl (zN hZ ((rS (Run.region (Ops.buildL bd75 rfl dc rfl rfl (Ops.alloc rfl dc (T.zeroOk rfl) rfl (fun x => (Ops.store 0 rfl rfl rfl rfl rfl (T.sizeOk rfl) rfl (lb rfl) rfl rfl (Ops.nil ?_))))))))))))
 repeat refine rS ?_
 refine rP 2 (fun Z hZ => (eE rfl (eE rfl (zN hZ ((Ops.callP (M := [(r, rdO s 0 pr), (x, _)]) (N := []) (zz_Decode (R := fun J M => ∃ mc, ixV J m nn mc /\ M = [(x, blk mc 75)]) I hU s hs r x pr a0 hE _ 62 95 v t hr meth_ixT call95 (fun J cs hle hrel => ix_take 10000 J (hU.mono hle) cs v hrel m nn hv hg x)) (List.Perm.swap _ _ _) rfl dc call43 rfl ?_))))))
 rintro y J2 M2 l2 ⟨rfl, mc, hmc, rfl⟩
 refine oP rfl (Ops.nil (rS (rO (fun Z hZ => (eE rfl (fE (Ev.neqNil T rfl rfl rfl rfl rfl) (zN hZ ?_)))))))
 repeat (first | refine rS ?_ | refine rK ?_ | refine rF rfl ?_)
 refine rO (fun Z hZ => (eE rfl (eE rfl (zN hZ ?_))))
 skip
 refine Run.ret2 (by rw [hCf]; exact func23) results23 rfl rfl (hR _ _ _ ?_)
 exact ⟨x, mc, rfl, hmc, rfl⟩
theorem impl_ManifestParseM (I : Imm) (hU : UT I) (s : Bs) (hs : s.length <= 137438953472) (a0 : Addr) (hE : At I 2 0 [eofV a0]) (m : Mf) (nn : Bool) (v : JV) (t : Bs) (hr : rdV 10000 s = some (v, t)) (hv : obR mfNames (mfM m nn) (mfE m nn) v) (hg : okMt m) (hc : okDt m.cfg) (hi : m.idx = false) (ho : okOM m) (hoc : okO m.cfg) :
  Pure prog 9 [str s, .bool false] I fun w J => ∃ u, w = .tuple #[u, .bool true] /\ isMf J m nn u := by
 refine Spec.enter 39 [(0, _), (1, _)] func9 rfl ntmps9 (by simp) rfl ?_
 intro C hCf hR hCI
 refine rS ?_
 refine Run.region (Ops.alloc rfl dc (T.zeroOk rfl) rfl (fun b4 => (oP rfl (Ops.nil ?_))))
 repeat refine rS ?_
 refine rO (fun Z hZ => (eE rfl (zN hZ ?_)))
 repeat (first | refine rS ?_ | refine rK ?_ | refine rF rfl ?_)
 refine rP 1 (fun Z hZ => (eE rfl (zN hZ ((Ops.callN ((strings_NewReader I s)) rfl dc call24 rfl ?_)))))
 rintro _ J1 M1 l1 ⟨r, rfl, rfl⟩
 refine oP rfl (Ops.callP (N := [(b4, _)]) (v1_ParseManifest J1 (hU.mono l1) s hs r _ a0 (hE.mono l1) m nn v t hr hv hg hc) (perm_of_count fun x => by simp only [List.count_append, List.count_cons, List.count_nil, Nat.add_zero, Nat.zero_add] <;> ac_rfl) rfl dc call26 rfl ?_)
 rintro y J2 M2 l2 ⟨x, mc, rfl, hmc, rfl⟩
 iterate 5 refine oP rfl ?_
 refine Ops.nil ?_
 repeat refine rS ?_
 refine rO (fun Z hZ => (eE rfl (fE (Ev.neqNil T rfl rfl rfl rfl rfl) (zN hZ ?_))))
 repeat (first | refine rS ?_ | refine rK ?_ | refine rF rfl ?_)
 have hmc0 := hmc
 obtain ⟨d0, d1, d2, d3, d4, d5, d6, d7, d8, cl, ca, cb, rfl, _⟩ := hmc
 refine rP 3 (fun Z hZ => (eE rfl (eE rfl (gY (Yv.loadN 1 T rfl rfl rfl rfl rfl rfl) (zN hZ ((Ops.call ((impl_manifestOf J2 m nn _ hmc0 hi ho hoc)) rfl dc call27 rfl ?_)))))))
 rintro u J3 l3 hu
 obtain ⟨A1, n1, c1, A2, n2, c2, A3, n3, c3, A4, n4, c4, A5, n5, c5, A6, n6, c6, rfl, hu⟩ := hu
 refine Ops.store 0 rfl rfl rfl rfl rfl (T.sizeOk rfl) rfl (lb rfl) rfl rfl (oP rfl (Ops.nil ?_))
 skip
 refine Run.retCT T 0 (by rw [hCf]; exact func9) results9 rfl rfl rfl rfl rfl rfl rfl (hR _ _ _ ?_)
 exact ⟨rfl, _, rfl, A1, n1, c1, A2, n2, c2, A3, n3, c3, A4, n4, c4, A5, n5, c5, A6, n6, c6, rfl, hu⟩
theorem impl_ManifestParseI (I : Imm) (hU : UT I) (s : Bs) (hs : s.length <= 137438953472) (a0 : Addr) (hE : At I 2 0 [eofV a0]) (m : Mf) (nn : Bool) (v : JV) (t : Bs) (hr : rdV 10000 s = some (v, t)) (hv : obR ixNames (ixM m nn) (ixE m nn) v) (hg : okMt m) (hi : m.idx = true) (ho : okOM m) (hoc : m.cfg = ⟨[], 0, ([], []), [], [], [], [], []⟩) :
  Pure prog 9 [str s, .bool true] I fun w J => ∃ u, w = .tuple #[u, .bool true] /\ isMf J m nn u := by
 refine Spec.enter 39 [(0, _), (1, _)] func9 rfl ntmps9 (by simp) rfl ?_
 intro C hCf hR hCI
 refine rS ?_
 refine Run.region (Ops.alloc rfl dc (T.zeroOk rfl) rfl (fun b4 => (oP rfl (Ops.nil ?_))))
 repeat refine rS ?_
 refine rO (fun Z hZ => (eE rfl (zN hZ ?_)))
 repeat (first | refine rS ?_ | refine rT rfl ?_)
 refine rP 1 (fun Z hZ => (eE rfl (zN hZ ((Ops.callN ((strings_NewReader I s)) rfl dc call24 rfl ?_)))))
 rintro _ J1 M1 l1 ⟨r, rfl, rfl⟩
 refine oP rfl (Ops.callP (N := [(b4, _)]) (v1_ParseIndex J1 (hU.mono l1) s hs r _ a0 (hE.mono l1) m nn v t hr hv hg) (perm_of_count fun x => by simp only [List.count_append, List.count_cons, List.count_nil, Nat.add_zero, Nat.zero_add] <;> ac_rfl) rfl dc call23 rfl ?_)
 rintro y J2 M2 l2 ⟨x, mc, rfl, hmc, rfl⟩
 iterate 5 refine oP rfl ?_
 refine Ops.nil ?_
 repeat refine rS ?_
 refine rO (fun Z hZ => (eE rfl (fE (Ev.neqNil T rfl rfl rfl rfl rfl) (zN hZ ?_))))
 repeat (first | refine rS ?_ | refine rK ?_ | refine rF rfl ?_)
 have hmc0 := hmc
 obtain ⟨cl, ca, cb, rfl, _⟩ := hmc
 refine rP 3 (fun Z hZ => (eE rfl (eE rfl (gY (Yv.loadN 1 T rfl rfl rfl rfl rfl rfl) (zN hZ ((Ops.call ((impl_indexOf J2 m nn _ hmc0 hi ho hoc)) rfl dc call25 rfl ?_)))))))
 rintro u J3 l3 hu
 obtain ⟨A1, n1, c1, A2, n2, c2, A3, n3, c3, A4, n4, c4, A5, n5, c5, A6, n6, c6, rfl, hu⟩ := hu
 refine Ops.store 0 rfl rfl rfl rfl rfl (T.sizeOk rfl) rfl (lb rfl) rfl rfl (oP rfl (Ops.nil ?_))
 skip
 refine Run.retCT T 0 (by rw [hCf]; exact func9) results9 rfl rfl rfl rfl rfl rfl rfl (hR _ _ _ ?_)
 exact ⟨rfl, _, rfl, A1, n1, c1, A2, n2, c2, A3, n3, c3, A4, n4, c4, A5, n5, c5, A6, n6, c6, rfl, hu⟩
def awMf : Mf := ⟨true, 2, [120], ⟨[], 0, ([], []), [], [], [], [], []⟩, [], [], [], []⟩
def awTx : Bs := [123, 34, 115, 99, 104, 101, 109, 97, 86, 101, 114, 115, 105, 111, 110, 34, 58, 50, 44, 34, 109, 101, 100, 105, 97, 84, 121, 112, 101, 34, 58, 34, 120, 34, 125]
def awMs : List (Bs × JV) := [([115, 99, 104, 101, 109, 97, 86, 101, 114, 115, 105, 111, 110], .mk 48 false [50] [] []), ([109, 101, 100, 105, 97, 84, 121, 112, 101], .mk 34 true [120] [] [])]
def awJV : JV := .mk 123 false [] (awMs.map Prod.snd) (awMs.map Prod.fst)
theorem awTx_read : rdV 10000 awTx = some (awJV, []) := by kernel_rfl
theorem aw_ob : obR ixNames (ixM awMf false) (ixE awMf false) awJV := by
 refine ⟨rfl, awMs, rfl, rfl, by decide, fun m hm => ?_, ?_, ?_⟩
 ·rcases List.mem_cons.1 hm with rfl | hm
  ·exact ⟨by decide, .inl ⟨by decide, rfl, rfl⟩⟩
  ·obtain rfl := List.mem_singleton.1 hm
   exact ⟨by decide, .inr (.inl ⟨by decide, rfl, rfl⟩)⟩
 ·exact List.pairwise_cons.2 ⟨fun b hb he => by
   obtain rfl := List.mem_singleton.1 hb
   exact absurd he (by decide), List.pairwise_singleton _ _⟩
 ·exact ⟨fun h => absurd h (by decide), fun h => absurd h (by decide), fun _ => ⟨rfl, rfl⟩, fun _ => rfl, fun _ => rfl, fun _ => rfl⟩
theorem aw_okMt : okMt awMf := ⟨by decide, fun d h => (by cases h), fun d h => (by cases h), by decide, by decide, by decide⟩
theorem aw_okOM : okOM awMf := ⟨fun d h => (by cases h), fun d h => (by cases h), by decide, by decide, fun i x y h => (by cases h), by decide⟩
theorem manifestAwakeP (I : Imm) (hU : UT I) (a0 : Addr) (hE : At I 2 0 [eofV a0]) : Pure prog 6 [] I fun w J => w = .bool true := by
 refine Spec.enter 18 [] func6 rfl ntmps6 (by simp) rfl ?_
 intro C hCf hR hCI
 refine rS ?_
 refine rO (fun Z hZ => (eE rfl (zN hZ ((rS (Run.region (Ops.call ((impl_ManifestParseI I hU awTx dc a0 hE awMf false awJV [] awTx_read aw_ob aw_okMt rfl aw_okOM rfl)) rfl dc call9 rfl ?_)))))))
 rintro _ J1 l1 ⟨u, rfl, hu⟩
 obtain ⟨A1, n1, c1, A2, n2, c2, A3, n3, c3, A4, n4, c4, A5, n5, c5, A6, n6, c6, rfl, _⟩ := hu
 iterate 3 refine oP rfl ?_
 refine Ops.alloc rfl dc (T.zeroOk rfl) rfl (fun b1 => (Ops.store 0 rfl rfl rfl rfl rfl (T.sizeOk rfl) rfl (lb rfl) rfl rfl (oP rfl (Ops.nil (rS (rO (fun Z hZ => (eE rfl (eE rfl (eE rfl (gY (Yv.load 0 T rfl rfl rfl rfl) (fE (Ev.eqlI rfl rfl) (eE rfl (eE rfl (eE rfl (gY (Yv.load 0 T rfl rfl rfl rfl) (fE (Ev.eqlS rfl rfl) (eE rfl (eE rfl (zN hZ ?_))))))))))))))))))))
 skip
 refine Run.fin (Run.ret1 (by rw [hCf]; exact func6) results6 rfl (hR _ _ _ ?_))
 exact ⟨rfl, rfl⟩
end Go.V
namespace Go.V
open Go.RowKit
set_option maxRecDepth 10000
attribute [local irreducible] Run Ops QD
theorem u8_ok {n : Int} (h : (Cd.int .u8).ok n) : 0 <= n /\ n <= 255 := by
 have h' : (Lit.int .u8 n).wf = true := h
 simp [Lit.wf, IntKind.min, IntKind.max, IntKind.signed, IntKind.bits] at h'
 omega
theorem i64_ok {n : Int} (h : (Cd.int .i64).ok n) : -9223372036854775808 <= n /\ n <= 9223372036854775807 := by
 have h' : (Lit.int .i64 n).wf = true := h
 simp [Lit.wf, IntKind.min, IntKind.max, IntKind.signed, IntKind.bits] at h'
 omega
theorem bytesNsl {I : Imm} {v : Value} {x : Option (List Int)} (h : Val (.nsl (.int .u8)) I v x) (hx : (Cd.nsl (.int .u8)).ok x) : ∃ ws : Bs, Sl tU8 I v ws := by
 have h' : (tNSl (tInt .u8)).rel I [v] x := h
 cases x with
 | none =>
  have e : [v] = [.slice none 0 0] := h'
  obtain rfl : v = .slice none 0 0 := by simpa using e
  exact ⟨[], Sl.nil _ _⟩
 | some l =>
  obtain ⟨a, c, h1, h2, h3⟩ := h'
  obtain rfl : v = .slice (some a) l.length c := by simpa using h1
  have hok : ∀ n ∈ l, (Cd.int .u8).ok n := (hx l rfl).2
  refine ⟨l.map fun n => UInt8.ofNat n.toNat, some a, c, by rw [List.length_map], by rw [List.length_map]; exact h2, ?_⟩
  rcases h3 with rfl | ⟨b, off, rfl, h4⟩
  ·exact .inl rfl
  ·refine .inr ⟨b, off, rfl, fun j y hy => ?_⟩
   rw [List.getElem?_map] at hy
   cases hj : l[j]? with
   | none => rw [hj] at hy; cases hy
   | some n =>
    rw [hj] at hy
    obtain rfl : UInt8.ofNat n.toNat = y := Option.some.inj hy
    obtain ⟨cs, hr, hA⟩ := h4 j n hj
    obtain rfl : cs = [.int .u8 n] := hr
    have hn := u8_ok (hok n (List.mem_of_getElem? hj))
    refine ⟨_, ?_, hA⟩
    show [Value.int .u8 n] = [Value.int .u8 ((UInt8.ofNat n.toNat).toNat : Int)]
    rw [ofNat_nat (by omega)]
    have : ((n.toNat : Nat) : Int) = n := by omega
    rw [this]
abbrev cdPf : Cd := .st (.pair .str (.pair .str (.pair .str (.pair .str (.pair (.nsl .str) (.nsl .str))))))
abbrev cdK2 : Cd := .st (.pair .str .str)
abbrev cdDs : Cd := .st (.pair .str (.pair (.int .i64) (.pair cdK2 (.pair .str (.pair (.nsl .str) (.pair (.nsl cdK2) (.pair (.nsl cdPf) .str)))))))
abbrev cdMf : Cd := .st (.pair .bool (.pair (.int .i64) (.pair .str (.pair cdDs (.pair (.nsl cdDs) (.pair (.nsl cdK2) (.pair (.nsl cdDs) .str)))))))
theorem nsl_map {α β : Type} {t : Ty α} {t' : Ty β} {I : Imm} {cs : List Value} {x : Option (List α)} (φ : α -> β) (hs : t'.size = t.size) (hφ : ∀ cs x, t.rel I cs x -> t'.rel I cs (φ x)) (h : (tNSl t).rel I cs x) : ∃ A n c, cs = [.slice A n c] /\ Sl t' I (.slice A n c) ((x.getD []).map φ) := by
 cases x with
 | none => exact ⟨none, 0, 0, h, Sl.nil _ _⟩
 | some xs =>
  obtain ⟨a, c, h1, h2, h3⟩ := h
  have hS : Sl t I (.slice (some a) xs.length c) xs := ⟨some a, c, rfl, h2, h3.imp id fun ⟨b, off, h4, h5⟩ => ⟨b, off, by rw [h4], h5⟩⟩
  exact ⟨some a, xs.length, c, h1, hS.map φ hs hφ⟩
theorem nsl_len {α β : Type} {t : Ty α} {t' : Ty β} {I : Imm} {cs : List Value} {x : Option (List α)} (φ : α -> β) (hs : t'.size = t.size) (hφ : ∀ cs x, t.rel I cs x -> t'.rel I cs (φ x)) (h : (tNSl t).rel I cs x) : ∃ A c, cs = [.slice A ((x.getD []).map φ).length c] /\ Sl t' I (.slice A ((x.getD []).map φ).length c) ((x.getD []).map φ) := by
 obtain ⟨A, n, c, rfl, hS⟩ := nsl_map φ hs hφ h
 obtain ⟨A', c', e⟩ := hS.isSl
 cases e
 exact ⟨A, c, rfl, hS⟩
theorem rel_k2 {I : Imm} (cs : List Value) (x : cdK2.ty) (h : cdK2.T.rel I cs x) : tK2.rel I cs (x : K2) := by
 obtain ⟨c1, c2, rfl, h1, h2⟩ := h
 have e1 : c1 = [str x.1] := h1
 have e2 : c2 = [str x.2] := h2
 subst e1 e2
 rfl
theorem rel_str {I : Imm} (cs : List Value) (x : List UInt8) (h : (Cd.str).T.rel I cs x) : tStr.rel I cs x := h
def asTx (x : Option (List Bs)) : List Bs := (x.getD []).map fun y : Bs => y
def asPf (x : cdPf.ty) : PfL := (⟨x.1, x.2.1, x.2.2.1, x.2.2.2.1⟩, asTx x.2.2.2.2.1, asTx x.2.2.2.2.2)
theorem rel_pf {I : Imm} (cs : List Value) (x : cdPf.ty) (h : cdPf.T.rel I cs x) : tPf.rel I cs (asPf x) := by
 obtain ⟨c1, c2, rfl, rfl, c3, c4, rfl, rfl, c5, c6, rfl, rfl, c7, c8, rfl, rfl, c9, c10, rfl, hf, hg⟩ := h
 obtain ⟨A, a, rfl, hu⟩ := nsl_len (t' := tStr) (fun x : Bs => x) rfl rel_str hf
 obtain ⟨B, b, rfl, hw⟩ := nsl_len (t' := tStr) (fun x : Bs => x) rfl rel_str hg
 exact ⟨A, a, B, b, rfl, hu, hw⟩
def asK2 (x : cdK2.ty) : K2 := (x.1, x.2)
def asDs (x : cdDs.ty) : Ds := ⟨x.1, x.2.1, (x.2.2.1.1, x.2.2.1.2), x.2.2.2.1, asTx x.2.2.2.2.1, (Option.getD (x.2.2.2.2.2.1 : Option (List cdK2.ty)) []).map asK2, (Option.getD (x.2.2.2.2.2.2.1 : Option (List cdPf.ty)) []).map asPf, x.2.2.2.2.2.2.2⟩
theorem rel_ds {I : Imm} (cs : List Value) (x : cdDs.ty) (h : cdDs.T.rel I cs x) : tDs.rel I cs (asDs x) := by
 obtain ⟨c1, c2, rfl, rfl, c3, c4, rfl, rfl, c5, c6, rfl, ⟨d1, d2, rfl, rfl, rfl⟩, c7, c8, rfl, rfl, c9, c10, rfl, hf, c11, c12, rfl, hg, c13, c14, rfl, hh, rfl⟩ := h
 obtain ⟨A1, a1, rfl, h1⟩ := nsl_len (t' := tStr) (fun x : Bs => x) rfl rel_str hf
 obtain ⟨A2, a2, rfl, h2⟩ := nsl_len (t := cdK2.T) (t' := tK2) asK2 rfl (fun cs x h => rel_k2 cs x h) hg
 obtain ⟨A3, a3, rfl, h3⟩ := nsl_len (t' := tPf) asPf rfl rel_pf hh
 exact ⟨A1, a1, A2, a2, A3, a3, rfl, h1, h2, h3⟩
theorem size_ds {x : cdDs.ty} (h : cdDs.ok x) : -9223372036854775808 <= (asDs x).size /\ (asDs x).size <= 9223372036854775807 := i64_ok h.2.1
theorem size_dss {x : Option (List cdDs.ty)} (h : (Cd.nsl cdDs).ok x) : ∀ y ∈ (x.getD []).map asDs, -9223372036854775808 <= y.size /\ y.size <= 9223372036854775807 := by
 intro y hy
 obtain ⟨z, hz, rfl⟩ := List.mem_map.1 hy
 cases x with
 | none => cases hz
 | some l => exact size_ds ((h l rfl).2 z hz)
theorem Val.mf {I : Imm} {v : Value} {x : cdMf.ty} (h : Val cdMf I v x) (k : cdMf.ok x) : ∃ (m : Mf) (A1 : Option Addr) (n1 c1 : Nat) (A2 : Option Addr) (n2 c2 : Nat) (A3 : Option Addr) (n3 c3 : Nat) (A4 : Option Addr) (n4 c4 : Nat) (A5 : Option Addr) (n5 c5 : Nat) (A6 : Option Addr) (n6 c6 : Nat),
  v = .agg (m.cs (.slice A1 n1 c1) (.slice A2 n2 c2) (.slice A3 n3 c3) (.slice A4 n4 c4) (.slice A5 n5 c5) (.slice A6 n6 c6)).toArray /\ MfL I m (.slice A1 n1 c1) (.slice A2 n2 c2) (.slice A3 n3 c3) (.slice A4 n4 c4) (.slice A5 n5 c5) (.slice A6 n6 c6) /\ szM m := by
 obtain ⟨cs, rfl, h⟩ := h
 obtain ⟨c1, c2, rfl, rfl, c3, c4, rfl, rfl, c5, c6, rfl, rfl, c7, c8, rfl, hd, c9, c10, rfl, hl, c11, c12, rfl, ha, c13, c14, rfl, hs, rfl⟩ := h
 obtain ⟨A1, a1, A2, a2, A3, a3, rfl, h1⟩ := rel_ds _ _ hd
 obtain ⟨A4, a4, rfl, h4⟩ := nsl_len (t' := tDs) asDs rfl rel_ds hl
 obtain ⟨A5, a5, rfl, h5⟩ := nsl_len (t := cdK2.T) (t' := tK2) asK2 rfl (fun cs x h => rel_k2 cs x h) ha
 obtain ⟨A6, a6, rfl, h6⟩ := nsl_len (t' := tDs) asDs rfl rel_ds hs
 obtain ⟨k1, k2, k3, k4, k5, k6, k7, k8⟩ := k
 refine ⟨⟨x.1, x.2.1, x.2.2.1, asDs x.2.2.2.1, _, _, _, x.2.2.2.2.2.2.2⟩, _, _, _, _, _, _, _, _, _, _, _, _, _, _, _, _, _, _, rfl, ⟨h1, h4, h5, h6⟩, ?_, i64_ok k2⟩
 intro y hy
 rcases List.mem_append.1 hy with hy | hy
 ·rcases List.mem_append.1 hy with hy | hy
  ·exact size_dss k5 y hy
  ·exact size_dss k7 y hy
 ·obtain rfl := List.mem_singleton.1 hy
  exact size_ds k4
theorem okD_of {x : Ds} (h : goodD x) (hf : fitDs x) (hz : -9223372036854775808 <= x.size /\ x.size <= 9223372036854775807) : okD x := by
 obtain ⟨g1, g2, g3, g4, g5, g6, g7, g8⟩ := h
 refine ⟨by omega, by omega, ?_, by omega, hf.2.1, hz⟩
 cases hp : x.plats with
 | nil => intro y hy; cases hy
 | cons y r =>
  have hr : r = [] := by
   rw [hp, List.length_cons] at g3
   exact List.eq_nil_of_length_eq_zero (by omega)
  subst hr
  intro z hz
  obtain rfl := List.mem_singleton.1 hz
  have h1 : (pTexts [z]).length <= 60 := by
   have := g7
   unfold dTexts at this
   rw [List.length_append, hp] at this; omega
  simp only [pTexts, List.flatMap_cons, List.flatMap_nil, List.append_nil, List.length_append, List.length_cons, List.length_nil] at h1
  omega
theorem okM_of {m : Mf} (h : goodM m) (hf : fitMf m) (hz : szM m) : okM m := by
 obtain ⟨g1, g2, g3, g4, g5, g6, g7⟩ := h
 obtain ⟨f1, f2, f3, f4, f5, f6⟩ := hf
 have hal := aTexts_len m.anns
 rw [List.length_append] at g6
 exact ⟨fun x hx => okD_of (g1 x (by simp [hx])) (f3.2 x hx) (hz.1 x (by simp [hx])), fun x hx => okD_of (g1 x (by simp [hx])) (f5.2 x hx) (hz.1 x (by simp [hx])), fun hi => okD_of (g2 hi) f2 (hz.1 _ (by simp)), by omega, by omega, hz.2⟩
end Go.V
namespace Go.V
open Go.Proofs.Tryz
open Go.RowKit Go.ChangeShapes Go.Proofs
set_option maxRecDepth 100000
theorem at_cell {W : World} {b off : Nat} {v : Value} (h : W.cell? ⟨b, off, none⟩ = some v) : At (whole W) b off [v] :=
 (at_whole (a := ⟨b, off, none⟩) (by simp) (fun j u hj => by
  cases j with
  | zero => simp at hj; subst hj; simpa [Addr.add] using h
  | succ j => simp at hj)).2
theorem u8extra : U8Extra prog ren196 := ⟨by kernel_rfl, by kernel_rfl, by kernel_rfl, by kernel_rfl, by kernel_rfl, by kernel_rfl, by kernel_rfl⟩
theorem UT.ofLaid {W : World} {l : List (String × DataW Unit)} (h : laidMetH prog l W) (hp : (l.all fun x => x.2.handleName?.isNone) = true)
  (h1 : ("unicode/utf8.first", Lib.firstData) ∈ l) (h2 : ("unicode/utf8.acceptRanges", Lib.acceptData) ∈ l) : UT (whole W) := by
 rw [MakeChecks.laidMetH_plain _ _ _ hp] at h
 have hT : Lib.Utf8Tabs 0 1 W := utf8Tabs_of_readsT (ρ := ren196) (U8Types.of196 lays196) u8extra (Lib.laidMet.reads h h1) (Lib.laidMet.reads h h2)
 exact ⟨fun c hc => at_cell (hT.1 c hc), fun i hi => ⟨at_cell (hT.2 i hi).1, at_cell (hT.2 i hi).2⟩⟩
end Go.V
namespace Go.V
open Go.Proofs.Tryz
open Go.RowKit
set_option maxRecDepth 10000
attribute [local irreducible] Run Ops QD
theorem nkO_eq {A B : Option Addr} (h : A.isSome = B.isSome) : nkO A = nkO B := by
 cases A <;> cases B <;> first | rfl | cases h
def bareM (m : Mf) : Mf := ⟨m.idx, m.ver, m.media, ⟨[], 0, ([], []), [], [], [], [], []⟩, m.lays, m.anns, m.subj, m.art⟩
theorem toldT_bare {m : Mf} (hi : m.idx = true) (A : Option Addr) : toldT (bareM m) A = toldT m A := by
 unfold toldT mfJ mfK miK
 rw [if_pos hi, if_pos (show (bareM m).idx = true from hi)]
 rfl
theorem okDt_of {x : Ds} (h : goodD x) (ho : okD x) : okDt x := by
 obtain ⟨h1, h2, h3, h4, h5, h6, h7, h8⟩ := h
 obtain ⟨o1, o2, o3, o4, o5, o6, o7⟩ := ho
 exact ⟨o1, by omega, o3, h1, o6, o7, o4⟩
theorem okO_of {x : Ds} (h : goodD x) : okO x := ⟨h.2.1, by have := h.2.2.2.1; omega, h.2.2.1⟩
theorem impl_ManifestParseG (I : Imm) (hU : UT I) (s : Bs) (hs : s.length <= 137438953472) (a0 : Addr) (hE : At I 2 0 [eofV a0]) (m : Mf) (A : Option Addr) (v : JV) (t : Bs) (hr : rdV 10000 s = some (v, t)) (hrep : Rep 6 true (mfJ m (nkO A)) v) (hg : goodM m) (hok : okM m) (hz : szM m) (hA : A = none -> m.lays = []) :
  Pure prog 9 [str s, .bool m.idx] I fun w J => ∃ u m', w = .tuple #[u, .bool true] /\ isMf J m' A.isSome u /\ goodM m' /\ okM m' /\ ∀ B : Option Addr, B.isSome = A.isSome -> toldT m' B = toldT m A := by
 obtain ⟨g1, g2, g3, g4, g5, g6, g7⟩ := id hg
 obtain ⟨k1, k2, k3, k4, k5, k6, k7⟩ := id hok
 obtain ⟨z1, z2, z3⟩ := hz
 have hmt : okMt m := ⟨by omega, fun d hd => okDt_of (g1 d (by simp [hd])) (k1 d hd), fun d hd => okDt_of (g1 d (by simp [hd])) (k2 d hd), by omega, k6, k7⟩
 have hom : okOM m := ⟨fun d hd => okO_of (g1 d (by simp [hd])), fun d hd => okO_of (g1 d (by simp [hd])), by omega, g4, g5, by omega⟩
 have hsz : ∀ x ∈ m.lays, szD x := fun x hx => z1 x (by simp [hx])
 have hss : ∀ x ∈ m.subj, szD x := fun x hx => z1 x (by simp [hx])
 cases hi : m.idx with
 | false =>
  have hv := rep_mf hrep hi k6 k7 (z1 m.cfg (by simp)) hsz hss hA
  refine (impl_ManifestParseM I hU s hs a0 hE m A.isSome v t hr hv hmt (okDt_of (g2 hi) (k3 hi)) hi hom (okO_of (g2 hi))).mono fun w J _ ⟨u, h1, h2⟩ => ⟨u, m, h1, h2, hg, hok, fun B hB => ?_⟩
  unfold toldT
  rw [nkO_eq hB]
 | true =>
  have hv := rep_ix hrep hi k6 k7 hsz hss hA
  have hmt' : okMt (bareM m) := hmt
  have hom' : okOM (bareM m) := hom
  refine (impl_ManifestParseI I hU s hs a0 hE (bareM m) A.isSome v t hr hv hmt' hi hom' rfl).mono fun w J _ ⟨u, h1, h2⟩ => ⟨u, bareM m, h1, h2, ⟨g1, fun h => absurd (hi.symm.trans h) (by decide), g3, g4, g5, g6, g7⟩, ⟨k1, k2, fun h => absurd (hi.symm.trans h) (by decide), k4, k5, k6, k7⟩, fun B hB => ?_⟩
  rw [toldT_bare hi]
  unfold toldT
  rw [nkO_eq hB]
set_option maxHeartbeats 2000000 in
theorem laws_FnManifestParse (I : Imm) (v0 : Value) (x : cdMf.ty) (h0 : Val cdMf I v0 x) (k0 : cdMf.ok x) (v1 : Value) (ys : Option (List Int)) (h1 : Val (.nsl (.int .u8)) I v1 ys) (k1 : (Cd.nsl (.int .u8)).ok ys) (v2 : Value) (q0 : Bs) (h2 : Val .str I v2 q0) (k2 : Cd.str.ok q0) (hU : UT I) (a0 : Addr) (hE : At I 2 0 [eofV a0]) :
  Pure prog 3 [v0, v1, v2] I fun v _ => v = .bool true := by
 obtain ⟨m, A1, n1, c1, A2, n2, c2, A3, n3, c3, A4, n4, c4, A5, n5, c5, A6, n6, c6, rfl, hL, hz⟩ := h0.mf k0
 obtain ⟨ws, hS⟩ := bytesNsl h1 k1
 obtain ⟨A7, c7, rfl⟩ := hS.isSl
 obtain rfl := h2.str
 clear h0 k0 h1 k1 h2 k2
 refine Spec.enter 60 [(0, _), (1, _), (2, _)] func3 rfl ntmps3 (by simp) rfl ?_
 intro C hCf hR hCI
 refine rS ?_
 refine Run.region (Ops.box rfl dc rfl rfl (fun b0 => (oP rfl (Ops.nil ?_))))
 repeat refine rS ?_
 refine rP 1 (fun Z hZ => (gY (Yv.loadN 0 T rfl rfl rfl rfl rfl rfl) (zN hZ ((Ops.call ((laws_zzFits28 I m _ _ _ _ _ _ _ _ _ _ _ _ _ _ _ _ _ _ hL)) rfl dc call4 rfl ?_)))))
 rintro _ J1 l1 ⟨q, rfl, hf⟩
 cases q with
 | false =>
  skip
  iterate 2 refine oP rfl ?_
  iterate 3 refine Ops.not rfl dc ?_
  iterate 2 refine oP rfl ?_
  iterate 3 refine Ops.not rfl dc ?_
  refine oP rfl (Ops.nil ?_)
  repeat (first | refine rS ?_ | refine rT rfl ?_)
  refine rO (fun Z hZ => (eE rfl (zN hZ ?_)))
  skip
  refine Run.fin (Run.ret1 (by rw [hCf]; exact func3) results3 rfl (hR _ _ _ ?_))
  exact ⟨rfl, rfl⟩
 | true =>
 have hfit := hf rfl
 by_cases hw : 2147483647 < ws.length
 ·skip
  skip
  iterate 4 refine oP rfl ?_
  refine Ops.ev ((Ev.gtr rfl rfl).as (congrArg Value.bool (decide_eq_true (by omega)))) rfl dc (oP rfl (oP rfl (Ops.not rfl dc (Ops.not rfl dc (Ops.not rfl dc (oP rfl (Ops.nil ?_)))))))
  repeat (first | refine rS ?_ | refine rT rfl ?_)
  refine rO (fun Z hZ => (eE rfl (zN hZ ?_)))
  skip
  refine Run.fin (Run.ret1 (by rw [hCf]; exact func3) results3 rfl (hR _ _ _ ?_))
  exact ⟨rfl, rfl⟩
 by_cases hq : 2147483647 < q0.length
 ·skip
  skip
  iterate 4 refine oP rfl ?_
  refine Ops.ev ((Ev.gtr rfl rfl).as (congrArg Value.bool (decide_eq_false (by omega)))) rfl dc (oP rfl (oP rfl (oP rfl (Ops.ev (Ev.lenS T rfl rfl) rfl dc (Ops.ev ((Ev.gtr rfl rfl).as (congrArg Value.bool (decide_eq_true (by omega)))) rfl dc (oP rfl (Ops.nil ?_)))))))
  repeat (first | refine rS ?_ | refine rT rfl ?_)
  refine rO (fun Z hZ => (eE rfl (zN hZ ?_)))
  skip
  refine Run.fin (Run.ret1 (by rw [hCf]; exact func3) results3 rfl (hR _ _ _ ?_))
  exact ⟨rfl, rfl⟩
 skip
 iterate 4 refine oP rfl ?_
 refine Ops.ev ((Ev.gtr rfl rfl).as (congrArg Value.bool (decide_eq_false (by omega)))) rfl dc (oP rfl (oP rfl (oP rfl (Ops.ev (Ev.lenS T rfl rfl) rfl dc (Ops.ev ((Ev.gtr rfl rfl).as (congrArg Value.bool (decide_eq_false (by omega)))) rfl dc (oP rfl (Ops.nil ?_)))))))
 repeat (first | refine rS ?_ | refine rK ?_ | refine rF rfl ?_)
 refine rP 1 (fun Z hZ => (gY (Yv.loadN 0 T rfl rfl rfl rfl rfl rfl) (zN hZ ((Ops.call ((laws_manifestGood J1 (hU.mono l1) m _ _ _ _ _ _ _ _ _ _ _ _ _ _ _ _ _ _ (hL.mono l1) hfit)) rfl dc call5 rfl ?_)))))
 rintro _ J2 l2 ⟨q, rfl, hg⟩
 have hU2 := hU.mono (l1.trans l2)
 have hE2 := hE.mono (l1.trans l2)
 cases q with
 | false =>
  skip
  iterate 2 refine oP rfl ?_
  iterate 3 refine Ops.not rfl dc ?_
  refine oP rfl (Ops.nil ?_)
  repeat (first | refine rS ?_ | refine rT rfl ?_)
  refine rO (fun Z hZ => (QD.call (manifestAwakeP _ hU2 a0 hE2) dc rfl call6 rfl (eE rfl (zN hZ ?_))))
  skip
  refine Run.fin (Run.ret1 (by rw [hCf]; exact func3) results3 rfl (hR _ _ _ ?_))
  exact ⟨rfl, rfl⟩
 | true =>
 have hgd := hg rfl
 by_cases hw2 : 5000 < ws.length
 ·skip
  skip
  iterate 4 refine oP rfl ?_
  refine Ops.ev ((Ev.gtr rfl rfl).as (congrArg Value.bool (decide_eq_true (by omega)))) rfl dc (oP rfl (Ops.nil ?_))
  repeat (first | refine rS ?_ | refine rT rfl ?_)
  refine rO (fun Z hZ => (QD.call (manifestAwakeP _ hU2 a0 hE2) dc rfl call6 rfl (eE rfl (zN hZ ?_))))
  skip
  refine Run.fin (Run.ret1 (by rw [hCf]; exact func3) results3 rfl (hR _ _ _ ?_))
  exact ⟨rfl, rfl⟩
 skip
 iterate 4 refine oP rfl ?_
 refine Ops.ev ((Ev.gtr rfl rfl).as (congrArg Value.bool (decide_eq_false (by omega)))) rfl dc (oP rfl (Ops.nil ?_))
 have hok := okM_of hgd hfit hz
 have hF := fine_mf A4 hgd hz
 have hlen : (wval 6 (mfJ m (nkO A4)) true ws).1.length <= 34359738368 := Nat.le_trans (wval_le wquo_le 6 _ true ws hF) (cost_mf A4 hgd)
 obtain ⟨v, hrep, a, b, hb, e, hrd⟩ := wval_reads 6 (mfJ m (nkO A4)) true ws 10000 hF (by decide)
 obtain ⟨k, hk⟩ : ∃ k : Nat, k = min q0.length 100 := ⟨_, rfl⟩
 have hrd := hrd (q0.take k) (.inr (.inr (.inl rfl)))
 have hA4 : A4 = none -> m.lays = [] := fun h => by
  obtain ⟨A', c', e', _, h3⟩ := hL.2.1
  injection e' with e1 _ _
  rcases h3 with h3 | ⟨b, off, h3, _⟩
  ·exact h3
  ·rw [<- e1, h] at h3; cases h3
 clear e
 repeat (first | refine rS ?_ | refine rK ?_ | refine rF rfl ?_)
 refine rP 1 (fun Z hZ => (gY (Yv.loadN 0 T rfl rfl rfl rfl rfl rfl) (zN hZ ((Ops.call ((spec_ManifestJson 0 J2 m _ _ _ _ _ _ _ _ _ _ _ _ _ _ _ _ _ _ (hL.mono (l1.trans l2)) hok)) rfl dc call8 rfl ?_)))))
 rintro _ J3 l3 ⟨vk, rfl, hvk⟩
 skip
 refine oP rfl ?_
 have hT := spec_Wayward 6 J3 _ (mfJ m (nkO A4)) _ ws ⟨vk, rfl, hvk⟩ hF (hS.mono ((l1.trans l2).trans l3)) (by omega) hlen
 generalize (wval 6 (mfJ m (nkO A4)) true ws).1 = tx at *
 refine Ops.call (hT) rfl dc call7 rfl ?_
 rintro _ J5 l4 rfl
 skip
 refine oP rfl (Ops.nil ?_)
 have l15 := ((l1.trans l2).trans l3).trans l4
 have hU5 := hU.mono l15
 have hE5 := hE.mono l15
 have hL5 := hL.mono l15
 have htk : (q0.take k).length = k := by rw [List.length_take]; omega
 refine rS ?_
 refine Run.piece (fun env' L' J' => ∃ (b2 : Nat) (m' : Mf) (B1 : Option Addr) (p1 e1 : Nat) (B2 : Option Addr) (p2 e2 : Nat) (B3 : Option Addr) (p3 e3 : Nat) (B4 : Option Addr) (p4 e4 : Nat) (B5 : Option Addr) (p5 e5 : Nat) (B6 : Option Addr) (p6 e6 : Nat), MfL J' m' (.slice B1 p1 e1) (.slice B2 p2 e2) (.slice B3 p3 e3) (.slice B4 p4 e4) (.slice B5 p5 e5) (.slice B6 p6 e6) /\ goodM m' /\ okM m' /\ toldT m' B4 = toldT m A4 /\
  env' = [(3, .pointer (some ⟨b0, 0, none⟩)), (8, .pointer (some ⟨b2, 0, none⟩)), (9, .bool true)] /\
  L' = [(b2, blk (m'.cs (.slice B1 p1 e1) (.slice B2 p2 e2) (.slice B3 p3 e3) (.slice B4 p4 e4) (.slice B5 p5 e5) (.slice B6 p6 e6)) 31), (b0, blk (m.cs (.slice A1 n1 c1) (.slice A2 n2 c2) (.slice A3 n3 c3) (.slice A4 n4 c4) (.slice A5 n5 c5) (.slice A6 n6 c6)) 31)] /\ Le J5 J') ?_ ?_
 ·intro k' fin
  refine Run.regionAny (Holds J5 [(b0, blk (m.cs (.slice A1 n1 c1) (.slice A2 n2 c2) (.slice A3 n3 c3) (.slice A4 n4 c4) (.slice A5 n5 c5) (.slice A6 n6 c6)) 31)]) (bl 16 0) (by kernel_rfl) (by kernel_rfl) (RAny.tk 0 (bl 16 1) rfl (by kernel_rfl) dc (fun W h => h.holds (Le.refl _) (by first | exact mp rfl | exact mq rfl)) (Yld.eval T rfl rfl) (RAny.tk 1 (bl 16 3) rfl (by kernel_rfl) dc (fun W h => h.holds (Le.refl _) (by first | exact mp rfl | exact mq rfl)) (Yld.eval T rfl rfl) (RAny.tk 2 (bl 16 7) rfl (by kernel_rfl) dc (fun W h => h.holds (Le.refl _) (by first | exact mp rfl | exact mq rfl)) (Yld.eval T rfl rfl) (RAny.tk 7 (bl 16 135) rfl (by kernel_rfl) dc (fun W h => h.holds (Le.refl _) (by first | exact mp rfl | exact mq rfl)) (Yld.eval T rfl rfl) ?_))))
  refine RAny.tk 8 (bl 16 391) rfl (by kernel_rfl) dc (fun W h => h.holds (Le.refl _) (by first | exact mp rfl | exact mq rfl)) (Yld.load 0 T rfl rfl rfl rfl rfl) (RAny.tk 3 (bl 16 399) rfl (by kernel_rfl) dc (fun W h => h.holds (Le.refl _) (by first | exact mp rfl | exact mq rfl)) (Yld.lenS T rfl rfl rfl) (RAny.tk 4 (bl 16 415) rfl (by kernel_rfl) dc (fun W h => h.holds (Le.refl _) (by first | exact mp rfl | exact mq rfl)) (Yld.ev ((Ev.min2 rfl rfl).as (show _ = Value.int .i64 (k : Int) from congrArg (Value.int .i64) (by split <;> omega))) rfl) (RAny.tk 5 (bl 16 447) rfl (by kernel_rfl) dc (fun W h => h.holds (Le.refl _) (by first | exact mp rfl | exact mq rfl)) (Yld.ev (Ev.cutSHi T rfl rfl rfl (by omega) (by omega)) rfl) ?_)))
  rw [Int.toNat_natCast]
  refine RAny.tk 6 (bl 16 511) rfl (by kernel_rfl) dc (fun W h => h.holds (Le.refl _) (by first | exact mp rfl | exact mq rfl)) (Yld.ev (Ev.catS rfl rfl (by omega)) rfl) ?_
  refine RAny.two 9 13 (bl 16 1023) (bl 16 8703) rfl rfl (by kernel_rfl) rfl rfl dc dc (Eff.call (impl_ManifestParseG J5 hU5 (tx ++ q0.take k) (by rw [List.length_append]; omega) a0 hE5 m A4 v _ hrd hrep hgd hok hz hA4) call9 rfl fun x1 K1 m1 hx1 => ⟨fun W h => h.holds m1 (fun _ h => h), ?_⟩) (Eff.alloc (T.zeroOk rfl) rfl fun b2 => ⟨fun W h => h.holds (Le.refl _) (fun _ h => .tail _ h), ?_⟩)
  skip
  ·skip
   skip
   obtain ⟨u, m', rfl, ⟨B1, p1, e1, B2, p2, e2, B3, p3, e3, B4, p4, e4, B5, p5, e5, B6, p6, e6, rfl, hL', hB4⟩, hg', hok', htold⟩ := hx1
   skip
   refine RAny.tk 10 (bl 16 2047) rfl (by kernel_rfl) dc (fun W h => h.holds m1 (by first | exact mp rfl | exact mq rfl)) (Yld.eval T rfl rfl) (RAny.tk 11 (bl 16 4095) rfl (by kernel_rfl) dc (fun W h => h.holds m1 (by first | exact mp rfl | exact mq rfl)) (Yld.eval T rfl rfl) (RAny.tk 12 (bl 16 8191) rfl (by kernel_rfl) dc (fun W h => h.holds m1 (by first | exact mp rfl | exact mq rfl)) (Yld.eval T rfl rfl) (RAny.on 13 (bl 16 16383) rfl (by kernel_rfl) rfl dc (Eff.alloc (T.zeroOk rfl) rfl fun b2 => ⟨fun W h => h.holds m1 (fun _ h => .tail _ h), (RAny.os 14 (bl 16 32767) rfl (by kernel_rfl) rfl (Eff.store 0 rfl rfl rfl rfl (T.sizeOk rfl) rfl (lb rfl) rfl rfl ⟨fun W h => h.holds m1 (fun _ h => .tail _ h), (RAny.on 15 (bl 16 65535) rfl (by kernel_rfl) rfl dc (Eff.assign rfl ⟨fun W h => h.holds m1 (fun _ h => .tail _ h), (RAny.done _ (by kernel_rfl) (Run.keep [3, 8, 9] [_, _, _] rfl ?_))⟩))⟩))⟩))))
   exact fin _ _ _ ⟨b2, m', B1, p1, e1, B2, p2, e2, B3, p3, e3, B4, p4, e4, B5, p5, e5, B6, p6, e6, hL', hg', hok', htold B4 hB4, rfl, rfl, m1⟩
  ·skip
   skip
   skip
   refine RAny.on 9 (bl 16 9215) rfl (by kernel_rfl) rfl dc (Eff.call (impl_ManifestParseG J5 hU5 (tx ++ q0.take k) (by rw [List.length_append]; omega) a0 hE5 m A4 v _ hrd hrep hgd hok hz hA4) call9 rfl fun x1 K1 m1 hx1 => ⟨fun W h => h.holds m1 (fun _ h => .tail _ h), ?_⟩)
   obtain ⟨u, m', rfl, ⟨B1, p1, e1, B2, p2, e2, B3, p3, e3, B4, p4, e4, B5, p5, e5, B6, p6, e6, rfl, hL', hB4⟩, hg', hok', htold⟩ := hx1
   skip
   refine RAny.tk 10 (bl 16 10239) rfl (by kernel_rfl) dc (fun W h => h.holds m1 (by first | exact mp rfl | exact mq rfl)) (Yld.eval T rfl rfl) (RAny.tk 11 (bl 16 12287) rfl (by kernel_rfl) dc (fun W h => h.holds m1 (by first | exact mp rfl | exact mq rfl)) (Yld.eval T rfl rfl) (RAny.tk 12 (bl 16 16383) rfl (by kernel_rfl) dc (fun W h => h.holds m1 (by first | exact mp rfl | exact mq rfl)) (Yld.eval T rfl rfl) (RAny.os 14 (bl 16 32767) rfl (by kernel_rfl) rfl (Eff.store 0 rfl rfl rfl rfl (T.sizeOk rfl) rfl (lb rfl) rfl rfl ⟨fun W h => h.holds m1 (fun _ h => .tail _ h), (RAny.on 15 (bl 16 65535) rfl (by kernel_rfl) rfl dc (Eff.assign rfl ⟨fun W h => h.holds m1 (fun _ h => .tail _ h), (RAny.done _ (by kernel_rfl) (Run.keep [3, 8, 9] [_, _, _] rfl ?_))⟩))⟩))))
   exact fin _ _ _ ⟨b2, m', B1, p1, e1, B2, p2, e2, B3, p3, e3, B4, p4, e4, B5, p5, e5, B6, p6, e6, hL', hg', hok', htold B4 hB4, rfl, rfl, m1⟩
 rintro env' L' K ⟨b2, m', B1, p1, e1, B2, p2, e2, B3, p3, e3, B4, p4, e4, B5, p5, e5, B6, p6, e6, hL', hg', hok', htold, rfl, rfl, m1⟩
 refine rS ?_
 refine Run.regionAny (Holds K [(b2, blk (m'.cs (.slice B1 p1 e1) (.slice B2 p2 e2) (.slice B3 p3 e3) (.slice B4 p4 e4) (.slice B5 p5 e5) (.slice B6 p6 e6)) 31), (b0, blk (m.cs (.slice A1 n1 c1) (.slice A2 n2 c2) (.slice A3 n3 c3) (.slice A4 n4 c4) (.slice A5 n5 c5) (.slice A6 n6 c6)) 31)]) (bl 12 0) (by kernel_rfl) (by kernel_rfl) (RAny.tk 0 (bl 12 1) rfl (by kernel_rfl) dc (fun W h => h.holds (Le.refl _) (by first | exact mp rfl | exact mq rfl)) (Yld.eval T rfl rfl) (RAny.tk 1 (bl 12 3) rfl (by kernel_rfl) dc (fun W h => h.holds (Le.refl _) (by first | exact mp rfl | exact mq rfl)) (Yld.eval T rfl rfl) (RAny.tk 2 (bl 12 7) rfl (by kernel_rfl) dc (fun W h => h.holds (Le.refl _) (by first | exact mp rfl | exact mq rfl)) (Yld.loadN 0 T rfl rfl rfl rfl rfl rfl rfl) ?_)))
 refine RAny.tk 4 (bl 12 23) rfl (by kernel_rfl) dc (fun W h => h.holds (Le.refl _) (by first | exact mp rfl | exact mq rfl)) (Yld.loadN 1 T rfl rfl rfl rfl rfl rfl rfl) (RAny.on 3 (bl 12 31) rfl (by kernel_rfl) rfl dc (Eff.call (laws_told K m' _ _ _ _ _ _ _ _ _ _ _ _ _ _ _ _ _ _ hL' hok' hg') call10 rfl fun y1 K1 q1 hy1 => ⟨fun W h => h.holds q1 (fun _ h => h), ?_⟩))
 subst hy1
 refine RAny.on 5 (bl 12 63) rfl (by kernel_rfl) rfl dc (Eff.call (laws_told K1 m _ _ _ _ _ _ _ _ _ _ _ _ _ _ _ _ _ _ (hL5.mono (m1.trans q1)) hok hgd) call10 rfl fun y2 K2 q2 hy2 => ⟨fun W h => h.holds (q1.trans q2) (fun _ h => h), ?_⟩)
 subst hy2
 rw [htold]
 skip
 refine RAny.tk 6 (bl 12 127) rfl (by kernel_rfl) dc (fun W h => h.holds (q1.trans q2) (by first | exact mp rfl | exact mq rfl)) (Yld.ev ((Ev.eqlS rfl rfl).as (show _ = Value.bool true from congrArg Value.bool (decide_eq_true rfl))) rfl) (RAny.tk 7 (bl 12 255) rfl (by kernel_rfl) dc (fun W h => h.holds (q1.trans q2) (by first | exact mp rfl | exact mq rfl)) (Yld.eval T rfl rfl) (RAny.tk 8 (bl 12 511) rfl (by kernel_rfl) dc (fun W h => h.holds (q1.trans q2) (by first | exact mp rfl | exact mq rfl)) (Yld.eval T rfl rfl) (RAny.on 9 (bl 12 1023) rfl (by kernel_rfl) rfl dc (Eff.call (manifestAwakeP K2 (hU5.mono ((m1.trans q1).trans q2)) a0 (hE5.mono ((m1.trans q1).trans q2))) call6 rfl fun y3 K3 q3 hy3 => ⟨fun W h => h.holds ((q1.trans q2).trans q3) (fun _ h => h), ?_⟩))))
 subst hy3
 skip
 refine RAny.tk 10 (bl 12 2047) rfl (by kernel_rfl) dc (fun W h => h.holds ((q1.trans q2).trans q3) (by first | exact mp rfl | exact mq rfl)) (Yld.eval T rfl rfl) (RAny.on 11 (bl 12 4095) rfl (by kernel_rfl) rfl dc (Eff.assign rfl ⟨fun W h => h.holds ((q1.trans q2).trans q3) (fun _ h => h), (RAny.done _ (by kernel_rfl) ?_)⟩))
 skip
 refine Run.fin (Run.ret1 (by rw [hCf]; exact func3) results3 rfl (hR _ _ _ ?_))
 exact ⟨rfl, rfl⟩
end Go.V
