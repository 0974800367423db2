import Derived.Test.YtcegjgmmbbojdaaGreatDoorAW
import Derived.Test.YtcegjgmmbbojdaaGreatDoorAM15
set_option linter.unusedVariables false
set_option linter.unusedSimpArgs false
namespace Go.V
open Go.Proofs.Tryz
open Go.RowKit
set_option maxRecDepth 10000
attribute [local irreducible] Run Ops QD
def hTell (h : K2) : Bs := h.1 ++ [58] ++ h.2
theorem spec_HashTell (I : Imm) (h : K2) (hf : fit2 h) : Pure prog 39 [.agg [str h.1, str h.2].toArray] I fun w J => w = str (hTell h) := by
 obtain ⟨a, x⟩ := h
 obtain ⟨h1, h2⟩ := hf
 simp only at h1 h2
 refine Spec.enter 9 [(0, _)] func39 rfl ntmps39 (by simp) rfl ?_
 intro C hCf hR hCI
 refine rS ?_; refine Run.region ?_
 refine Ops.box rfl dc rfl rfl (fun b => ?_)
 repeat (first | refine rS ?_ | refine Run.region ?_ | refine Ops.nil ?_ | refine Ops.cat rfl (by decide) rfl rfl (by first | omega | (simp only [List.length_cons, List.length_nil] ; omega) | (simp; omega)) ?_ | refine oP rfl ?_ | refine Ops.load 0 rfl (by decide) rfl rfl (T.aggOk rfl) rfl ?_)
 refine Run.fin (Run.ret1 (by rw [hCf]; exact func39) results39 rfl (hR _ _ _ ?_))
 exact ⟨rfl, rfl⟩
theorem laws_hashGood (I : Imm) (h : K2) (hf : fit2 h) : Pure prog 33 [.agg [str h.1, str h.2].toArray] I fun w J => w = .bool (digGood (hTell h)) := by
 have hl : (hTell h).length <= 4620000000000000000 := by obtain ⟨h1, h2⟩ := hf; unfold hTell; simp only [List.length_append, List.length_cons, List.length_nil]; omega
 refine Spec.enter 14 [(0, _)] func33 rfl ntmps33 (by simp) rfl ?_
 intro C hCf hR hCI
 refine rS ?_
 refine Run.region (Ops.box rfl dc rfl rfl (fun b1 => (oP rfl (Ops.nil (rS (rP 1 (fun Z hZ => (gY (Yv.loadN 0 T rfl rfl rfl rfl rfl rfl) (zN hZ ((Ops.call ((spec_HashTell I h hf)) rfl dc call39 rfl ?_)))))))))))
 rintro _ J1 l1 rfl
 refine Ops.call ((spec_HashRead J1 (hTell h) hl)) rfl dc call50 rfl ?_
 rintro _ J2 l2 rfl
 cases hd : digGood (hTell h) with
 | true =>
  simp only [if_true]
  unfold hashV
  iterate 4 refine oP rfl ?_
  refine Ops.alloc rfl dc (T.zeroOk rfl) rfl (fun b3 => (Ops.store 0 rfl rfl rfl rfl rfl (T.sizeOk rfl) rfl (lb rfl) rfl rfl (oP rfl (oP rfl (Ops.nil (rS (rO (fun Z hZ => (eE rfl (eE rfl (zN hZ ?_)))))))))))
  skip
  refine Run.fin (Run.ret1 (by rw [hCf]; exact func33) results33 rfl (hR _ _ _ ?_))
  exact ⟨rfl, by rw [hd]⟩
 | false =>
  simp only [Bool.false_eq_true, if_false]
  unfold zeroH hashV
  skip
  iterate 4 refine oP rfl ?_
  refine Ops.alloc rfl dc (T.zeroOk rfl) rfl (fun b3 => (Ops.store 0 rfl rfl rfl rfl rfl (T.sizeOk rfl) rfl (lb rfl) rfl rfl (oP rfl (oP rfl (Ops.nil (rS (rO (fun Z hZ => (eE rfl (eE rfl (zN hZ ?_)))))))))))
  skip
  refine Run.fin (Run.ret1 (by rw [hCf]; exact func33) results33 rfl (hR _ _ _ ?_))
  exact ⟨rfl, by rw [hd]⟩
theorem Gr.lit {α : Type} {t : Ty α} {I : Imm} {e : TypeId} {b : Nat} {news : List Value} {ys : List α} (hC : Cells t I news ys) : Gr t I e (.slice (some ⟨b, 0, none⟩) ys.length ys.length) ys [(b, blk news e)] :=
 ⟨news, ⟨hC.flat_len, .inr ⟨b, ys.length, news.toArray, rfl, rfl, Nat.le_refl _, by simpa using hC.flat_len, by simp [<- hC.flat_len]⟩⟩, hC⟩
def pTexts (l : List PfL) : List Bs := l.flatMap fun x => [x.1.os, x.1.arch, x.1.ver, x.1.var] ++ x.2.2 ++ x.2.1
def aTexts (l : List K2) : List Bs := l.flatMap fun p => [p.1, p.2]
def dTexts (d : Ds) : List Bs := [d.media, d.art] ++ d.urls ++ aTexts d.anns ++ pTexts d.plats
def goodD (d : Ds) : Prop := digGood (hTell d.dig) = true /\ Asc d.anns /\ d.plats.length <= 1 /\ d.anns.length <= 10 /\ d.urls.length <= 10 /\ d.data.length <= 1000 /\ (dTexts d).length <= 60 /\ ∀ s ∈ dTexts d, goodS s
theorem aTexts_len (l : List K2) : (aTexts l).length = 2 * l.length := by
 unfold aTexts
 induction l with
 | nil => rfl
 | cons x l ih => rw [List.flatMap_cons, List.length_append, ih]; simp; omega
theorem aTexts_fit {l : List K2} (h : ∀ x ∈ l, fit2 x) : ∀ s ∈ aTexts l, s.length <= 2147483647 := by
 intro s hs
 obtain ⟨x, hx, hm⟩ := List.mem_flatMap.1 hs
 have := h x hx
 simp only [List.mem_cons, List.not_mem_nil, or_false] at hm
 rcases hm with rfl | rfl
 ·exact this.1
 ·exact this.2
theorem pTexts_fit {l : List PfL} (h : ∀ x ∈ l, fitF x) : ∀ s ∈ pTexts l, s.length <= 2147483647 := by
 intro s hs
 obtain ⟨x, hx, hm⟩ := List.mem_flatMap.1 hs
 obtain ⟨⟨h1, h2, h3, h4⟩, h5, h6⟩ := h x hx
 simp only [List.mem_append, List.mem_cons, List.not_mem_nil, or_false] at hm
 rcases hm with ((rfl | rfl | rfl | rfl) | hm) | hm
 ·exact h2
 ·exact h1
 ·exact h3
 ·exact h4
 ·exact h6.2 s hm
 ·exact h5.2 s hm
theorem pTexts_len {l : List PfL} (h : ∀ x ∈ l, fitF x) (hl : l.length <= 1) : (pTexts l).length <= 4294967298 := by
 match l, hl with
 | [], _ => exact Nat.zero_le _
 | [x], _ =>
  obtain ⟨_, h5, h6⟩ := h x (by simp)
  have := h5.1
  have := h6.1
  simp only [pTexts, List.flatMap_cons, List.flatMap_nil, List.append_nil, List.length_append, List.length_cons, List.length_nil]
  omega
theorem Eff.appMany {P : Program} {n : Nat} {C : Cx} {env : Env} {L : Own} {I : Imm} {ty : TypeId} {ps : String} {af : Array Edge} {g : Option (Nat × Bool)} {d : Nat} {α : Type} {t : Ty α} {ys : List α} {s x : Operand} {ts e : TypeId} {bytes b q c : Nat} {M N : Own} {v : Value} {xs : List α} {news : List Value} {K : Value -> Own -> Imm -> Prop} (hE : Elem P ts e t.size bytes) (hG : Gr t I e v xs M) (hC : Cells t I news ys) (hq : ys.length = q)
  (hs : opnd env s = some v) (hx : opnd env x = some (.slice (some ⟨b, 0, none⟩) q c)) (hb : (b, blk news e) ∈ L) (hL : L.Perm (M ++ N)) (h1 : one news = true)
  (hbytes : (2 * (xs.length + q) + 512) * bytes <= 281474976710656) (h63 : xs.length + q <= 4611686018427387904)
  (next : ∀ v' M', Gr t I e v' (xs ++ ys) M' -> K v' (M' ++ N) I) :
  Eff P n C env L I ⟨some d, .call ⟨.builtin .append, #[s, x], #[ts, ts]⟩, ty, ps, af, g⟩ K := by
 obtain ⟨cs, hG1, hC1⟩ := hG
 have hlen : news.length = q * t.size := by rw [hC.flat_len, hq]
 refine Eff.append hE hs hx hL hG1 (q := q) (news := news) (fun W hi => ?_) hbytes h63 fun v' M' h => next v' M' ⟨cs ++ news, by simpa [hq] using h, hC1.append hC⟩
 have hW := hi.fits.own b _ hb
 exact Src.ofSlice W hE.under ⟨b, 0, none⟩ q c news hlen (fun j u hu => by rw [add_off, cell_blk hW]; simpa using hu) (one_spec h1)
set_option maxHeartbeats 4000000 in
theorem laws_descriptorGood (I : Imm) (hU : UT I) (d : Ds) (A1 : Option Addr) (n1 c1 : Nat) (A2 : Option Addr) (n2 c2 : Nat) (A3 : Option Addr) (n3 c3 : Nat) (hL : DsL I d (.slice A1 n1 c1) (.slice A2 n2 c2) (.slice A3 n3 c3)) (hfit : fitDs d) :
  Pure prog 14 [.agg (d.cs (.slice A1 n1 c1) (.slice A2 n2 c2) (.slice A3 n3 c3)).toArray] I fun w J => ∃ r, w = .bool r /\ (r = true -> goodD d) := by
 obtain ⟨media, size, dig, data, urls, anns, plats, art⟩ := d
 obtain ⟨hu, ha, hp⟩ := hL
 obtain ⟨f1, f2, f3, f4, f5, f6, f7⟩ := hfit
 simp only at hu ha hp f1 f2 f3 f4 f5 f6 f7
 obtain ⟨_, _, e1, _⟩ := id hu
 obtain ⟨_, _, e2, _⟩ := id ha
 obtain ⟨_, _, e3, _⟩ := id hp
 cases e1
 cases e2
 cases e3
 refine Spec.enter 92 [(0, _)] func14 rfl ntmps14 (by simp) rfl ?_
 intro C hCf hR hCI
 refine rS ?_
 refine Run.region (Ops.box rfl dc rfl rfl (fun b1 => (oP rfl (Ops.nil ?_))))
 repeat refine rS ?_
 refine rP 2 (fun Z hZ => (eE rfl (gY (Yv.loadN 0 T rfl rfl rfl rfl rfl rfl) (zN hZ ((Ops.call ((laws_hashGood I dig f2)) rfl dc call33 rfl ?_))))))
 rintro _ J1 l1 rfl
 skip
 cases hdg : digGood (hTell dig) with
 | false =>
  iterate 2 refine oP rfl ?_
  iterate 4 refine Ops.not rfl dc ?_
  iterate 2 refine oP rfl ?_
  iterate 4 refine Ops.not rfl dc ?_
  iterate 2 refine oP rfl ?_
  iterate 4 refine Ops.not rfl dc ?_
  iterate 2 refine oP rfl ?_
  iterate 4 refine Ops.not rfl dc ?_
  iterate 2 refine oP rfl ?_
  iterate 4 refine Ops.not rfl dc ?_
  refine oP rfl (Ops.nil ?_)
  repeat (first | refine rS ?_ | refine rT rfl ?_)
  refine rO (fun Z hZ => (eE rfl (zN hZ ?_)))
  skip
  refine Run.fin (Run.ret1 (by rw [hCf]; exact func14) results14 rfl (hR _ _ _ ?_))
  exact ⟨rfl, false, rfl, by simp⟩
 | true =>
  skip
  iterate 3 refine oP rfl ?_
  refine Ops.load 0 rfl dc rfl rfl (T.aggOk rfl) rfl (Ops.call ((laws_pairsGood J1 anns _ (ha.mono l1) f5.1)) rfl dc call15 rfl ?_)
  rintro _ J2 l2 ⟨r2, rfl, g2⟩
  cases r2 with
  | false =>
   iterate 3 refine oP rfl ?_
   iterate 4 refine Ops.not rfl dc ?_
   iterate 2 refine oP rfl ?_
   iterate 4 refine Ops.not rfl dc ?_
   iterate 2 refine oP rfl ?_
   iterate 4 refine Ops.not rfl dc ?_
   iterate 2 refine oP rfl ?_
   iterate 4 refine Ops.not rfl dc ?_
   refine oP rfl (Ops.nil ?_)
   repeat (first | refine rS ?_ | refine rT rfl ?_)
   refine rO (fun Z hZ => (eE rfl (zN hZ ?_)))
   skip
   refine Run.fin (Run.ret1 (by rw [hCf]; exact func14) results14 rfl (hR _ _ _ ?_))
   exact ⟨rfl, false, rfl, by simp⟩
  | true =>
   by_cases h1 : 1 < plats.length
   ·skip
    skip
    iterate 4 refine oP rfl ?_
    refine Ops.load 0 rfl dc rfl rfl (T.aggOk rfl) rfl (oP rfl (Ops.ev ((Ev.gtr rfl rfl).as (congrArg Value.bool (decide_eq_true (by omega)))) rfl dc (oP rfl (oP rfl ?_))))
    iterate 4 refine Ops.not rfl dc ?_
    iterate 2 refine oP rfl ?_
    iterate 4 refine Ops.not rfl dc ?_
    iterate 2 refine oP rfl ?_
    iterate 4 refine Ops.not rfl dc ?_
    refine oP rfl (Ops.nil ?_)
    repeat (first | refine rS ?_ | refine rT rfl ?_)
    refine rO (fun Z hZ => (eE rfl (zN hZ ?_)))
    skip
    refine Run.fin (Run.ret1 (by rw [hCf]; exact func14) results14 rfl (hR _ _ _ ?_))
    exact ⟨rfl, false, rfl, by simp⟩
   by_cases h2 : 10 < anns.length
   ·skip
    skip
    iterate 4 refine oP rfl ?_
    refine Ops.load 0 rfl dc rfl rfl (T.aggOk rfl) rfl (oP rfl (Ops.ev ((Ev.gtr rfl rfl).as (congrArg Value.bool (decide_eq_false (by omega)))) rfl dc (oP rfl (oP rfl (oP rfl (Ops.load 0 rfl dc rfl rfl (T.aggOk rfl) rfl (oP rfl (Ops.ev ((Ev.gtr rfl rfl).as (congrArg Value.bool (decide_eq_true (by omega)))) rfl dc (oP rfl (oP rfl ?_))))))))))
    iterate 4 refine Ops.not rfl dc ?_
    iterate 2 refine oP rfl ?_
    iterate 4 refine Ops.not rfl dc ?_
    refine oP rfl (Ops.nil ?_)
    repeat (first | refine rS ?_ | refine rT rfl ?_)
    refine rO (fun Z hZ => (eE rfl (zN hZ ?_)))
    skip
    refine Run.fin (Run.ret1 (by rw [hCf]; exact func14) results14 rfl (hR _ _ _ ?_))
    exact ⟨rfl, false, rfl, by simp⟩
   by_cases h3 : 10 < urls.length
   ·skip
    skip
    iterate 4 refine oP rfl ?_
    refine Ops.load 0 rfl dc rfl rfl (T.aggOk rfl) rfl (oP rfl (Ops.ev ((Ev.gtr rfl rfl).as (congrArg Value.bool (decide_eq_false (by omega)))) rfl dc (oP rfl (oP rfl (oP rfl (Ops.load 0 rfl dc rfl rfl (T.aggOk rfl) rfl (oP rfl (Ops.ev ((Ev.gtr rfl rfl).as (congrArg Value.bool (decide_eq_false (by omega)))) rfl dc (oP rfl (oP rfl (oP rfl (Ops.load 0 rfl dc rfl rfl (T.aggOk rfl) rfl (oP rfl (Ops.ev ((Ev.gtr rfl rfl).as (congrArg Value.bool (decide_eq_true (by omega)))) rfl dc (oP rfl (oP rfl ?_))))))))))))))))
    iterate 4 refine Ops.not rfl dc ?_
    refine oP rfl (Ops.nil ?_)
    repeat (first | refine rS ?_ | refine rT rfl ?_)
    refine rO (fun Z hZ => (eE rfl (zN hZ ?_)))
    skip
    refine Run.fin (Run.ret1 (by rw [hCf]; exact func14) results14 rfl (hR _ _ _ ?_))
    exact ⟨rfl, false, rfl, by simp⟩
   have hdl : ({ media := media, size := size, dig := dig, data := data, urls := urls, anns := anns, plats := plats, art := art } : Ds).data.length = data.length := rfl
   by_cases h4 : 1000 < data.length
   ·skip
    skip
    iterate 4 refine oP rfl ?_
    refine Ops.load 0 rfl dc rfl rfl (T.aggOk rfl) rfl (oP rfl (Ops.ev ((Ev.gtr rfl rfl).as (congrArg Value.bool (decide_eq_false (by omega)))) rfl dc (oP rfl (oP rfl (oP rfl (Ops.load 0 rfl dc rfl rfl (T.aggOk rfl) rfl (oP rfl (Ops.ev ((Ev.gtr rfl rfl).as (congrArg Value.bool (decide_eq_false (by omega)))) rfl dc (oP rfl (oP rfl (oP rfl (Ops.load 0 rfl dc rfl rfl (T.aggOk rfl) rfl (oP rfl (Ops.ev ((Ev.gtr rfl rfl).as (congrArg Value.bool (decide_eq_false (by omega)))) rfl dc (oP rfl (oP rfl (oP rfl (Ops.load 0 rfl dc rfl rfl (T.aggOk rfl) rfl (Ops.ev (Ev.lenS T rfl rfl) rfl dc (Ops.ev ((Ev.gtr rfl rfl).as (congrArg Value.bool (decide_eq_true (by omega)))) rfl dc (oP rfl (Ops.nil ?_))))))))))))))))))))))
    repeat (first | refine rS ?_ | refine rT rfl ?_)
    refine rO (fun Z hZ => (eE rfl (zN hZ ?_)))
    skip
    refine Run.fin (Run.ret1 (by rw [hCf]; exact func14) results14 rfl (hR _ _ _ ?_))
    exact ⟨rfl, false, rfl, by simp⟩
   skip
   iterate 4 refine oP rfl ?_
   refine Ops.load 0 rfl dc rfl rfl (T.aggOk rfl) rfl (oP rfl (Ops.ev ((Ev.gtr rfl rfl).as (congrArg Value.bool (decide_eq_false (by omega)))) rfl dc (oP rfl (oP rfl (oP rfl (Ops.load 0 rfl dc rfl rfl (T.aggOk rfl) rfl (oP rfl (Ops.ev ((Ev.gtr rfl rfl).as (congrArg Value.bool (decide_eq_false (by omega)))) rfl dc (oP rfl (oP rfl (oP rfl (Ops.load 0 rfl dc rfl rfl (T.aggOk rfl) rfl (oP rfl (Ops.ev ((Ev.gtr rfl rfl).as (congrArg Value.bool (decide_eq_false (by omega)))) rfl dc (oP rfl (oP rfl (oP rfl (Ops.load 0 rfl dc rfl rfl (T.aggOk rfl) rfl (Ops.ev (Ev.lenS T rfl rfl) rfl dc (Ops.ev ((Ev.gtr rfl rfl).as (congrArg Value.bool (decide_eq_false (by omega)))) rfl dc (oP rfl (Ops.nil ?_))))))))))))))))))))))
   repeat (first | refine rS ?_ | refine rK ?_ | refine rF rfl ?_)
   have hu2 := hu.mono (l1.trans l2)
   have ha2 := ha.mono (l1.trans l2)
   have hp2 := hp.mono (l1.trans l2)
   refine Run.region (oP rfl (Ops.load 0 rfl dc rfl rfl (T.aggOk rfl) rfl (oP rfl (Ops.load 0 rfl dc rfl rfl (T.aggOk rfl) rfl (Ops.lit T rfl rfl rfl dc rfl dc dc rfl rfl rfl rfl rfl (fun bq => ?_))))))
   have hG0 := Gr.lit (t := tStr) (I := J2) (e := 9) (b := bq) (Cells.strs [media, art])
   refine oP rfl (Ops.load 1 rfl dc rfl rfl (T.aggOk rfl) rfl (Ops.perm (List.Perm.swap _ _ _) (Ops.appSl (N := [_]) el24 hG0 hu2 (fun _ h => h.one_str) rfl dc rfl rfl rfl (by simp; omega) (by simp; omega) fun v1 M1 hG1 => (oP rfl (Ops.nil ?_)))))
   repeat refine rS ?_
   refine rO (fun Z hZ => (eE rfl (gY (Yv.load 0 T rfl rfl rfl rfl) (eE rfl (eE rfl (zN hZ ((rB ?_))))))))
   have hbase : ([media, art] ++ urls).length = urls.length + 2 := by simp
   generalize hbs : [media, art] ++ urls = bs at *
   refine Run.keep [1, 3, 51, 52, 53] [_, _, _, _, _] rfl ?_
   refine Run.rounds (fun m env L J => ∃ (i : Nat) (v : Value) (M : Own), m = anns.length - i /\ i <= anns.length /\ Gr tStr J 9 v (bs ++ aTexts (anns.take i)) M /\
    env = [(1, .pointer (some ⟨b1, 0, none⟩)), (3, v), (51, .slice A2 anns.length c2), (52, .int .i64 (anns.length : Int)), (53, .int .i64 (i : Int))] /\
    L = (b1, blk (Ds.cs ⟨media, size, dig, data, urls, anns, plats, art⟩ (.slice A1 urls.length c1) (.slice A2 anns.length c2) (.slice A3 plats.length c3)) 28) :: M /\ J2 = J) anns.length ⟨0, v1, M1, by omega, by omega, by simpa [aTexts] using hG1, rfl, rfl, rfl⟩ ?_
   clear hG1
   rintro m env L J ⟨i, v, M, rfl, hi, hG, rfl, rfl, rfl⟩ ih
   have hxl : (bs ++ aTexts (anns.take i)).length <= 32 := by rw [List.length_append, aTexts_len, List.length_take]; omega
   by_cases hlt : i < anns.length
   ·skip
    refine rS ?_
    refine rO (fun Z hZ => (kT (Ev.lss rfl rfl) (by omega) (zN hZ ?_)))
    repeat (first | refine rS ?_ | refine rK ?_ | refine rB ?_ | refine rT rfl ?_)
    refine Run.region (Ops.indexSl (j := (i : Int)) ha2 rfl dc rfl rfl (T.undOk rfl) (T.sizeOk rfl) (by omega) (by omega) fun bb off q cs hq hr hA => ?_)
    obtain rfl : cs = [str q.1, str q.2] := hr
    rw [Int.toNat_natCast] at hq
    refine Ops.loadIN rfl dc rfl hA (T.aggOk rfl) (T.sizeOk rfl) rfl (Ops.alloc rfl dc (T.zeroOk rfl) rfl (fun b5 => (Ops.store 0 rfl rfl rfl rfl rfl (T.sizeOk rfl) rfl (lb rfl) rfl rfl (Ops.nil ?_))))
    skip
    refine rP 5 (fun Z hZ => (eE rfl (eE rfl (gY (Yv.load 0 T rfl rfl rfl rfl) (eE rfl (gY (Yv.load 0 T rfl rfl rfl rfl) (zN hZ ((Ops.lit T rfl rfl rfl dc rfl dc dc rfl rfl rfl rfl rfl (fun bq2 => (Ops.appMany (t := tStr) (N := [_, _]) (q := 2) (ys := [q.1, q.2]) el24 hG (Cells.strs _) rfl rfl dc rfl rfl rfl rfl (by omega) (by omega) fun v' M' hG' => (oP rfl (Ops.nil (rI (Run.dropL (List.sublist_cons_self _ _) (rO (fun Z hZ => (fE (Ev.addK (r := ((i + 1 : Nat) : Int)) rfl rfl (by rw [wI (by omega) (by omega)]; omega)) (eE rfl (zN hZ ?_))))))))))))))))))))
    skip
    refine Run.keep [1, 3, 51, 52, 53] [_, _, _, _, _] rfl ?_
    refine ih (anns.length - (i + 1)) _ _ _ (by omega) ⟨i + 1, v', M', rfl, by omega, ?_, rfl, rfl, rfl⟩
    obtain ⟨hi', rfl⟩ := List.getElem?_eq_some_iff.1 hq
    rw [List.take_succ_eq_append_getElem hi', aTexts, List.flatMap_append, List.flatMap_singleton, <- List.append_assoc]
    exact hG'
   ·obtain rfl : i = anns.length := by omega
    rw [List.take_length] at hG hxl
    clear ih
    refine rS ?_
    refine rO (fun Z hZ => (kF (Ev.lss rfl rfl) (by omega) (zN hZ ?_)))
    repeat (first | refine rS ?_ | refine Run.exit rfl ?_ | refine rF rfl ?_)
    refine rO (fun Z hZ => (eE rfl (gY (Yv.load 0 T rfl rfl rfl rfl) (eE rfl (eE rfl (zN hZ ((rB ?_))))))))
    generalize hcs : bs ++ aTexts anns = ts at *
    refine Run.keep [1, 3, 66, 67, 68] [_, _, _, _, _] rfl ?_
    refine Run.rounds (fun m env L J => ∃ (i : Nat) (v : Value) (M : Own), m = plats.length - i /\ i <= plats.length /\ Gr tStr J 9 v (ts ++ pTexts (plats.take i)) M /\
     env = [(1, .pointer (some ⟨b1, 0, none⟩)), (3, v), (66, .slice A3 plats.length c3), (67, .int .i64 (plats.length : Int)), (68, .int .i64 (i : Int))] /\
     L = (b1, blk (Ds.cs ⟨media, size, dig, data, urls, anns, plats, art⟩ (.slice A1 urls.length c1) (.slice A2 anns.length c2) (.slice A3 plats.length c3)) 28) :: M /\ J2 = J) plats.length ⟨0, v, M, by omega, by omega, by simpa [pTexts] using hG, rfl, rfl, rfl⟩ ?_
    clear hG
    rintro m env L J ⟨i, v, M, rfl, hi, hG, rfl, rfl, rfl⟩ ih
    by_cases hlt : i < plats.length
    ·obtain rfl : i = 0 := by omega
     have hxl2 : (ts ++ pTexts (plats.take 0)).length <= 32 := by simpa [pTexts] using hxl
     refine rS ?_
     refine rO (fun Z hZ => (kT (Ev.lss rfl rfl) (by omega) (zN hZ ?_)))
     repeat (first | refine rS ?_ | refine rK ?_ | refine rB ?_ | refine rT rfl ?_)
     refine Run.region (Ops.indexSl (j := ((0 : Nat) : Int)) hp2 rfl dc rfl rfl (T.undOk rfl) (T.sizeOk rfl) (by omega) (by omega) fun bb off q cs hq hr hA => ?_)
     obtain ⟨Au, au, Av, av, rfl, hs1, hs2⟩ := hr
     rw [Int.toNat_natCast] at hq
     have hqf := f6.2 q (List.mem_of_getElem? hq)
     obtain ⟨_, hq1, hq2⟩ := hqf
     have hq1l := hq1.1
     have hq2l := hq2.1
     refine Ops.loadIN rfl dc rfl hA (T.aggOk rfl) (T.sizeOk rfl) rfl (Ops.alloc rfl dc (T.zeroOk rfl) rfl (fun b7 => (Ops.store 0 rfl rfl rfl rfl rfl (T.sizeOk rfl) rfl (lb rfl) rfl rfl (Ops.nil ?_))))
     skip
     refine Run.regionAny (Holds J2 [(b7, blk (q.1.cs (.slice Au q.2.1.length au) (.slice Av q.2.2.length av)) 92)]) (bl 18 0) (by kernel_rfl) (by kernel_rfl) (RAny.tk 0 (bl 18 1) rfl (by kernel_rfl) dc (fun W h => h.holds (Le.refl _) (by first | exact mp rfl | exact mq rfl)) (Yld.eval T rfl rfl) (RAny.tk 1 (bl 18 3) rfl (by kernel_rfl) dc (fun W h => h.holds (Le.refl _) (by first | exact mp rfl | exact mq rfl)) (Yld.eval T rfl rfl) (RAny.tk 2 (bl 18 7) rfl (by kernel_rfl) dc (fun W h => h.holds (Le.refl _) (by first | exact mp rfl | exact mq rfl)) (Yld.load 0 T rfl rfl rfl rfl rfl) (RAny.tk 3 (bl 18 15) rfl (by kernel_rfl) dc (fun W h => h.holds (Le.refl _) (by first | exact mp rfl | exact mq rfl)) (Yld.eval T rfl rfl) (RAny.tk 4 (bl 18 31) rfl (by kernel_rfl) dc (fun W h => h.holds (Le.refl _) (by first | exact mp rfl | exact mq rfl)) (Yld.load 0 T rfl rfl rfl rfl rfl) ?_)))))
     refine RAny.tk 5 (bl 18 63) rfl (by kernel_rfl) dc (fun W h => h.holds (Le.refl _) (by first | exact mp rfl | exact mq rfl)) (Yld.eval T rfl rfl) (RAny.tk 6 (bl 18 127) rfl (by kernel_rfl) dc (fun W h => h.holds (Le.refl _) (by first | exact mp rfl | exact mq rfl)) (Yld.load 0 T rfl rfl rfl rfl rfl) (RAny.tk 7 (bl 18 255) rfl (by kernel_rfl) dc (fun W h => h.holds (Le.refl _) (by first | exact mp rfl | exact mq rfl)) (Yld.eval T rfl rfl) (RAny.tk 8 (bl 18 511) rfl (by kernel_rfl) dc (fun W h => h.holds (Le.refl _) (by first | exact mp rfl | exact mq rfl)) (Yld.load 0 T rfl rfl rfl rfl rfl) (RAny.tk 11 (bl 18 2559) rfl (by kernel_rfl) dc (fun W h => h.holds (Le.refl _) (by first | exact mp rfl | exact mq rfl)) (Yld.eval T rfl rfl) (RAny.tk 12 (bl 18 6655) rfl (by kernel_rfl) dc (fun W h => h.holds (Le.refl _) (by first | exact mp rfl | exact mq rfl)) (Yld.load 0 T rfl rfl rfl rfl rfl) ?_)))))
     refine RAny.tk 14 (bl 18 23039) rfl (by kernel_rfl) dc (fun W h => h.holds (Le.refl _) (by first | exact mp rfl | exact mq rfl)) (Yld.eval T rfl rfl) (RAny.tk 15 (bl 18 55807) rfl (by kernel_rfl) dc (fun W h => h.holds (Le.refl _) (by first | exact mp rfl | exact mq rfl)) (Yld.load 0 T rfl rfl rfl rfl rfl) (RAny.on 9 (bl 18 56319) rfl (by kernel_rfl) rfl dc (Eff.lit T rfl rfl rfl dc dc rfl rfl rfl rfl rfl fun bq2 => ⟨fun W h => h.holds (Le.refl _) (by exact mq rfl), ?_⟩)))
     refine RAny.on 10 (bl 18 57343) rfl (by kernel_rfl) rfl dc (Eff.appMany (t := tStr) (M := M) (N := [_, _, _]) (q := 4) (ys := [q.1.os, q.1.arch, q.1.ver, q.1.var]) el24 hG (Cells.strs _) rfl rfl rfl List.mem_cons_self (List.perm_append_comm (l₁ := [_, _, _]) (l₂ := M)) rfl (by omega) (by omega) fun v2 M2 hG2 => ⟨fun W h => h.holds (Le.refl _) (by intro x hx; rcases List.mem_singleton.1 hx with rfl; exact List.mem_append_right _ (List.mem_cons_of_mem _ List.mem_cons_self)), ?_⟩)
     have hl2 : (ts ++ pTexts (plats.take 0) ++ [q.1.os, q.1.arch, q.1.ver, q.1.var]).length <= 36 := by rw [List.length_append]; simp only [List.length_cons, List.length_nil]; omega
     refine RAny.on 13 (bl 18 65535) rfl (by kernel_rfl) rfl dc (Eff.appSl (M := M2) (N := [_, _, _]) el24 hG2 hs2 (fun _ h => h.one_str) rfl rfl (.refl _) (by omega) (by omega) fun v3 M3 hG3 => ⟨fun W h => h.holds (Le.refl _) (by intro x hx; rcases List.mem_singleton.1 hx with rfl; exact List.mem_append_right _ (List.mem_cons_of_mem _ List.mem_cons_self)), ?_⟩)
     have hl3 : (ts ++ pTexts (plats.take 0) ++ [q.1.os, q.1.arch, q.1.ver, q.1.var] ++ q.2.2).length <= 36 + q.2.2.length := by rw [List.length_append]; omega
     refine RAny.on 16 (bl 18 131071) rfl (by kernel_rfl) rfl dc (Eff.appSl (M := M3) (N := [_, _, _]) el24 hG3 hs1 (fun _ h => h.one_str) rfl rfl (.refl _) (by omega) (by omega) fun v4 M4 hG4 => ⟨fun W h => h.holds (Le.refl _) (by intro x hx; rcases List.mem_singleton.1 hx with rfl; exact List.mem_append_right _ (List.mem_cons_of_mem _ List.mem_cons_self)), (RAny.perm (List.perm_append_comm (l₁ := M4) (l₂ := [_, _, _])) (RAny.tk 17 (bl 18 262143) rfl (by kernel_rfl) dc (fun W h => h.holds (Le.refl _) (by first | exact mp rfl | exact mq rfl)) (Yld.eval T rfl rfl) (RAny.done _ (by kernel_rfl) (rI (Run.dropL (L' := (b1, _) :: M4) (List.Sublist.cons _ (List.Sublist.cons _ (List.Sublist.refl _))) (rO (fun Z hZ => (fE (Ev.addK (r := ((0 + 1 : Nat) : Int)) rfl rfl (by rw [wI (by omega) (by omega)]; omega)) (eE rfl (zN hZ ?_))))))))))⟩)
     skip
     refine Run.keep [1, 3, 66, 67, 68] [_, _, _, _, _] rfl ?_
     refine ih (plats.length - (0 + 1)) _ _ _ (by omega) ⟨0 + 1, v4, M4, rfl, by omega, ?_, rfl, rfl, rfl⟩
     obtain ⟨hi', rfl⟩ := List.getElem?_eq_some_iff.1 hq
     rw [List.take_succ_eq_append_getElem hi', pTexts, List.flatMap_append, List.flatMap_singleton]
     simpa [pTexts] using hG4
    ·obtain rfl : i = plats.length := by omega
     rw [List.take_length] at hG
     clear ih
     have hpl := pTexts_len f6.2 (by omega)
     refine rS ?_
     refine rO (fun Z hZ => (kF (Ev.lss rfl rfl) (by omega) (zN hZ ?_)))
     repeat (first | refine rS ?_ | refine Run.exit rfl ?_ | refine rF rfl ?_)
     obtain ⟨Ax, cx, rfl⟩ := hG.isSl
     refine Run.keepGr hG (N := [(b1, _)]) (List.perm_append_comm (l₁ := [_]) (l₂ := M)) fun J5 l5 hSl => ?_
     have hts : ∀ s ∈ ts ++ pTexts plats, s.length <= 2147483647 := by
      intro s hs
      rw [<- hcs, <- hbs] at hs
      rcases List.mem_append.1 hs with hs | hs
      ·rcases List.mem_append.1 hs with hs | hs
       ·rcases List.mem_append.1 hs with hs | hs
        ·simp only [List.mem_cons, List.not_mem_nil, or_false] at hs
         rcases hs with rfl | rfl
         ·exact f1
         ·exact f7
        ·exact f4.2 s hs
       ·exact aTexts_fit f5.2 s hs
      ·exact pTexts_fit f6.2 s hs
     refine rP 1 (fun Z hZ => (eE rfl (zN hZ ((Ops.call ((laws_textsGood J5 (hU.mono ((l1.trans l2).trans l5)) _ _ hSl hts (by rw [List.length_append]; omega))) rfl dc call16 rfl ?_)))))
     rintro _ J6 l6 ⟨r, rfl, hg⟩
     refine oP rfl (Ops.nil ?_)
     skip
     refine Run.fin (Run.ret1 (by rw [hCf]; exact func14) results14 rfl (hR _ _ _ ?_))
     refine ⟨rfl, r, rfl, fun h => ⟨hdg, g2 rfl, by simp only; omega, by simp only; omega, by simp only; omega, by simp only; omega, ?_⟩⟩
     have := hg h
     rw [<- hcs, <- hbs] at this
     exact this
end Go.V
namespace Go.V
open Go.Proofs.Tryz
open Go.RowKit
set_option maxRecDepth 10000
attribute [local irreducible] Run Ops QD
def ptK (l : List PfL) : List Js := match l with
 | [] => []
 | x :: _ => [txJ [112, 108, 97, 116, 102, 111, 114, 109], plJ x]
def dsK (x : Ds) : List Js := [] ++ [txJ [109, 101, 100, 105, 97, 84, 121, 112, 101], txJ x.media] ++ [txJ [115, 105, 122, 101], nuJ x.size] ++ [txJ [100, 105, 103, 101, 115, 116], txJ (hTell x.dig)] ++ opJ [100, 97, 116, 97] (b64 x.data) ++ opL [117, 114, 108, 115] x.urls ++ opP [97, 110, 110, 111, 116, 97, 116, 105, 111, 110, 115] x.anns ++ ptK x.plats ++ opJ [97, 114, 116, 105, 102, 97, 99, 116, 84, 121, 112, 101] x.art
def dsJ (x : Ds) : Js := .mk 111 [] (dsK x)
theorem ptK_len (l : List PfL) : (ptK l).length <= 2 := by cases l <;> simp [ptK]
theorem ptK_head {l : List PfL} {q : PfL} (h : l[0]? = some q) : ptK l = [txJ [112, 108, 97, 116, 102, 111, 114, 109], plJ q] := by
 cases l with
 | nil => cases h
 | cons x l => obtain rfl : x = q := Option.some.inj h; rfl
def okD (x : Ds) : Prop := x.urls.length <= 1000000 /\ x.anns.length <= 400000 /\ (∀ y ∈ x.plats, y.2.1.length <= 1000000 /\ y.2.2.length <= 1000000) /\ x.data.length <= 1000000 /\ fit2 x.dig /\ -9223372036854775808 <= x.size /\ x.size <= 9223372036854775807
set_option maxHeartbeats 4000000 in
theorem spec_DescriptorJson (d : Nat) (I : Imm) (x : Ds) (A1 : Option Addr) (n1 c1 : Nat) (A2 : Option Addr) (n2 c2 : Nat) (A3 : Option Addr) (n3 c3 : Nat) (hL : DsL I x (.slice A1 n1 c1) (.slice A2 n2 c2) (.slice A3 n3 c3)) (hok : okD x) :
  Pure prog 21 [.agg (x.cs (.slice A1 n1 c1) (.slice A2 n2 c2) (.slice A3 n3 c3)).toArray] I fun w J => ∃ vk, w = .agg [.int .u8 111, str [], vk].toArray /\ Sl (tJs (d + 3)) J vk (dsK x) := by
 obtain ⟨media, size, dig, data, urls, anns, plats, art⟩ := x
 obtain ⟨hu, ha, hp⟩ := hL
 obtain ⟨hlu, hla, hlp, hld, hfd, hz1, hz2⟩ := hok
 simp only at hu ha hp hlu hla hlp hld hfd hz1 hz2
 obtain ⟨_, _, e4, _⟩ := id hu
 obtain ⟨_, _, e5, _⟩ := id ha
 obtain ⟨_, _, e6, _⟩ := id hp
 cases e4
 cases e5
 cases e6
 refine Spec.enter 55 [(0, _)] func21 rfl ntmps21 (by simp) rfl ?_
 intro C hCf hR hCI
 refine rS ?_
 refine Run.region (Ops.box rfl dc rfl rfl (fun b1 => (Ops.alloc rfl dc (T.zeroOk rfl) rfl (fun b2 => (Ops.nil (rS (Run.region (Ops.buildL bd38 rfl dc rfl rfl (Ops.buildL bd56 rfl dc rfl rfl (Ops.box rfl dc rfl rfl (fun b3 => (oP rfl (Ops.nil (Run.perm (L' := [_, _] ++ [(b3, _)]) ((List.Perm.swap _ _ _).trans (List.Perm.cons _ (List.Perm.swap _ _ _))) (rS ?_)))))))))))))))
 have hG0 := Gr.nil (tJs (d + 2 + 1)) I 38
 have le0 := Le.refl I
 have hn0 : ([] : List Js).length <= 0 := Nat.le_refl _
 refine rP 3 (fun Z hZ => (eE rfl (eE rfl (gY (Yv.load 1 T rfl rfl rfl rfl) (zN hZ ((Ops.call ((spec_jText I media)) rfl dc call38 rfl ?_)))))))
 rintro y1 K1 k1 rfl
 refine Ops.callP (N := [_, _]) (object_put (d + 2) _ b3 [109, 101, 100, 105, 97, 84, 121, 112, 101] _ (txJ media) [] (.slice none 0 0) [] (hG0.mono k1) (txJ_rel _ _ _) (by omega)) (.refl _) rfl dc call18 rfl ?_
 rintro y J1 N1 j1 ⟨vk1, M1, rfl, hG1⟩
 refine Ops.nil (rS ?_)
 have le1 := le0.trans (k1.trans j1)
 obtain ⟨ks1, hks1⟩ : ∃ ks : List Js, ks = [] ++ ([txJ [109, 101, 100, 105, 97, 84, 121, 112, 101], txJ media]) := ⟨_, rfl⟩
 have hG1 : Gr (tJs (d + 2 + 1)) J1 38 vk1 ks1 M1 := by rw [hks1]; exact hG1
 have hn1 : ks1.length <= 2 := by rw [hks1, List.length_append]; have h2 : ([txJ [109, 101, 100, 105, 97, 84, 121, 112, 101], txJ media] : List Js).length <= 2 := show _ <= 2 from Nat.le_refl 2; omega
 refine rP 3 (fun Z hZ => (eE rfl (eE rfl (gY (Yv.load 1 T rfl rfl rfl rfl) (zN hZ ((Ops.call ((spec_jNumber J1 size hz1 hz2)) rfl dc call19 rfl ?_)))))))
 rintro y2 K2 k2 rfl
 refine Ops.callP (N := [_, _]) (object_put (d + 2) _ b3 [115, 105, 122, 101] _ (nuJ size) ks1 vk1 M1 (hG1.mono k2) (nuJ_rel _ _ _) (by omega)) (.refl _) rfl dc call18 rfl ?_
 rintro y J2 N2 j2 ⟨vk2, M2, rfl, hG2⟩
 refine Ops.nil (rS ?_)
 have le2 := le1.trans (k2.trans j2)
 obtain ⟨ks2, hks2⟩ : ∃ ks : List Js, ks = ks1 ++ ([txJ [115, 105, 122, 101], nuJ size]) := ⟨_, rfl⟩
 have hG2 : Gr (tJs (d + 2 + 1)) J2 38 vk2 ks2 M2 := by rw [hks2]; exact hG2
 have hn2 : ks2.length <= 4 := by rw [hks2, List.length_append]; have h2 : ([txJ [115, 105, 122, 101], nuJ size] : List Js).length <= 2 := show _ <= 2 from Nat.le_refl 2; omega
 refine rP 3 (fun Z hZ => (eE rfl (eE rfl (gY (Yv.loadN 1 T rfl rfl rfl rfl rfl rfl) (zN hZ ((Ops.call ((spec_HashTell J2 dig hfd)) rfl dc call39 rfl ?_)))))))
 rintro y3a K3a k3a rfl
 refine Ops.call ((spec_jText K3a (hTell dig))) rfl dc call38 rfl ?_
 rintro y3 K3 k3 rfl
 refine Ops.callP (N := [_, _]) (object_put (d + 2) _ b3 [100, 105, 103, 101, 115, 116] _ (txJ (hTell dig)) ks2 vk2 M2 (hG2.mono (k3a.trans k3)) (txJ_rel _ _ _) (by omega)) (.refl _) rfl dc call18 rfl ?_
 rintro y J3 N3 j3 ⟨vk3, M3, rfl, hG3⟩
 refine Ops.nil (rS ?_)
 have le3 := le2.trans ((k3a.trans k3).trans j3)
 obtain ⟨ks3, hks3⟩ : ∃ ks : List Js, ks = ks2 ++ ([txJ [100, 105, 103, 101, 115, 116], txJ (hTell dig)]) := ⟨_, rfl⟩
 have hG3 : Gr (tJs (d + 2 + 1)) J3 38 vk3 ks3 M3 := by rw [hks3]; exact hG3
 have hn3 : ks3.length <= 6 := by rw [hks3, List.length_append]; have h2 : ([txJ [100, 105, 103, 101, 115, 116], txJ (hTell dig)] : List Js).length <= 2 := show _ <= 2 from Nat.le_refl 2; omega
 refine rP 3 (fun Z hZ => (eE rfl (eE rfl (gY (Yv.load 1 T rfl rfl rfl rfl) (zN hZ ((Ops.call ((spec_base64 J3 data (by omega))) rfl dc call40 rfl ?_)))))))
 rintro y4 K4 k4 rfl
 refine Ops.callP (N := [_, _]) (object_text (d + 2) K4 b3 [100, 97, 116, 97] (b64 data) ks3 vk3 M3 (hG3.mono k4) (by omega)) (.refl _) rfl dc call20 rfl ?_
 rintro y J4 N4 j4 ⟨vk4, M4, rfl, hG4⟩
 refine Ops.nil (rS ?_)
 have le4 := le3.trans (k4.trans j4)
 obtain ⟨ks4, hks4⟩ : ∃ ks : List Js, ks = ks3 ++ (opJ [100, 97, 116, 97] (b64 data)) := ⟨_, rfl⟩
 have hG4 : Gr (tJs (d + 2 + 1)) J4 38 vk4 ks4 M4 := by rw [hks4]; exact hG4
 have hn4 : ks4.length <= 8 := by rw [hks4, List.length_append]; have h2 : (opJ [100, 97, 116, 97] (b64 data) : List Js).length <= 2 := opJ_len _ _; omega
 refine rP 3 (fun Z hZ => (eE rfl (eE rfl (gY (Yv.load 1 T rfl rfl rfl rfl) (zN hZ ((Ops.callP (N := [_, _]) (object_texts (d + 1) J4 b3 [117, 114, 108, 115] urls _ (hu.mono le4) hlu ks4 vk4 M4 hG4 (by omega)) (.refl _) rfl dc call41 rfl ?_)))))))
 rintro y J5 N5 j5 ⟨vk5, M5, rfl, hG5⟩
 refine Ops.nil (rS ?_)
 have le5 := le4.trans j5
 obtain ⟨ks5, hks5⟩ : ∃ ks : List Js, ks = ks4 ++ (opL [117, 114, 108, 115] urls) := ⟨_, rfl⟩
 have hG5 : Gr (tJs (d + 2 + 1)) J5 38 vk5 ks5 M5 := by rw [hks5]; exact hG5
 have hn5 : ks5.length <= 10 := by rw [hks5, List.length_append]; have h2 : (opL [117, 114, 108, 115] urls : List Js).length <= 2 := opL_len _ _; omega
 refine rP 3 (fun Z hZ => (eE rfl (eE rfl (gY (Yv.load 1 T rfl rfl rfl rfl) (zN hZ ((Ops.callP (N := [_, _]) (object_pairs (d + 1) J5 b3 [97, 110, 110, 111, 116, 97, 116, 105, 111, 110, 115] anns _ (ha.mono le5) hla ks5 vk5 M5 hG5 (by omega)) (.refl _) rfl dc call22 rfl ?_)))))))
 rintro y J6 N6 j6 ⟨vk6, M6, rfl, hG6⟩
 refine Ops.nil ?_
 repeat refine rS ?_
 have le6 := le5.trans j6
 obtain ⟨ks6, hks6⟩ : ∃ ks : List Js, ks = ks5 ++ (opP [97, 110, 110, 111, 116, 97, 116, 105, 111, 110, 115] anns) := ⟨_, rfl⟩
 have hG6 : Gr (tJs (d + 2 + 1)) J6 38 vk6 ks6 M6 := by rw [hks6]; exact hG6
 have hn6 : ks6.length <= 12 := by rw [hks6, List.length_append]; have h2 : (opP [97, 110, 110, 111, 116, 97, 116, 105, 111, 110, 115] anns : List Js).length <= 2 := opP_len _ _; omega
 have hp6 := hp.mono le6
 skip
 by_cases hpe : plats = []
 ·skip
  refine rO (fun Z hZ => (eE rfl (gY (Yv.load 1 T rfl rfl rfl rfl) (eE rfl (kF (Ev.gtr rfl rfl) (by rw [hpe]; simp) (zN hZ ?_))))))
  repeat (first | refine rS ?_ | refine rK ?_ | refine rF rfl ?_)
  skip
  have hGr : Gr (tJs (d + 2 + 1)) J6 38 vk6 (ks6 ++ ptK plats) M6 := by
   first
    | (rw [hpe, ptK, List.append_nil]; exact hG6)
    | (rw [ptK_head hq0]; exact hG6)
  have hptl := ptK_len plats
  have hnr : (ks6 ++ ptK plats).length <= 14 := by rw [List.length_append]; omega
  refine rP 3 (fun Z hZ => (eE rfl (eE rfl (gY (Yv.load 1 T rfl rfl rfl rfl) (zN hZ ((Ops.callP (N := [_, _]) (object_text (d + 2) J6 b3 [97, 114, 116, 105, 102, 97, 99, 116, 84, 121, 112, 101] art (ks6 ++ ptK plats) vk6 M6 hGr (by omega)) (.refl _) rfl dc call20 rfl ?_)))))))
  rintro y Jr Nr jr ⟨vkr, Mr, rfl, hGf⟩
  refine Ops.nil (rS (Run.keepGr hGf (N := [_, _, _]) (List.perm_append_comm (l₁ := [_, _, _]) (l₂ := Mr)) fun JF lF hSl => ?_))
  obtain ⟨AF, cF, rfl⟩ := hSl.isSl
  refine Run.region (oP rfl (oP rfl (oP rfl (Ops.loadN 2 rfl dc rfl rfl (T.aggOk rfl) (T.sizeOk rfl) rfl rfl (Ops.store 0 rfl rfl rfl rfl rfl (T.sizeOk rfl) rfl (lb rfl) rfl rfl (Ops.nil ?_))))))
  skip
  refine Run.retC T 0 (by rw [hCf]; exact func21) results21 rfl rfl rfl rfl rfl rfl (hR _ _ _ ?_)
  refine ⟨rfl, _, rfl, ?_⟩
  have e : ks6 ++ ptK plats ++ opJ [97, 114, 116, 105, 102, 97, 99, 116, 84, 121, 112, 101] art = dsK ⟨media, size, dig, data, urls, anns, plats, art⟩ := by simp only [hks6, hks5, hks4, hks3, hks2, hks1]; rfl
  rw [e] at hSl ⊢
  exact hSl
 ·have hpp := List.length_pos_iff.2 hpe
  refine rO (fun Z hZ => (eE rfl (gY (Yv.load 1 T rfl rfl rfl rfl) (eE rfl (kT (Ev.gtr rfl rfl) (by omega) (zN hZ ((rT rfl (rP 3 (fun Z hZ => (eE rfl (eE rfl (gY (Yv.load 1 T rfl rfl rfl rfl) (zN hZ ((Ops.indexSl (j := 0) hp6 rfl dc rfl rfl (T.undOk rfl) (T.sizeOk rfl) (by omega) (by omega) fun bb off q cs hq hr hA => ?_))))))))))))))))
  obtain ⟨Au, au, Av, av, rfl, hs1, hs2⟩ := hr
  refine Ops.loadIN rfl dc rfl hA (T.aggOk rfl) (T.sizeOk rfl) rfl ?_
  obtain ⟨hq1, hq2⟩ := hlp q (List.mem_of_getElem? hq)
  refine Ops.call ((spec_platformJson d J6 q _ _ _ _ hs1 hs2 hq1 hq2)) rfl dc call42 rfl ?_
  rintro y K k ⟨vp, rfl, hSp⟩
  refine Ops.callP (N := [_, _]) (object_put (d + 2) K b3 [112, 108, 97, 116, 102, 111, 114, 109] _ (plJ q) ks6 vk6 M6 (hG6.mono k) ⟨vp, rfl, hSp⟩ (by omega)) (.refl _) rfl dc call18 rfl ?_
  rintro y Jq Nq jq ⟨vkq, Mq, rfl, hGq⟩
  refine Ops.nil (rS ?_)
  have leq := le6.trans (k.trans jq)
  have hq0 : plats[0]? = some q := hq
  skip
  have hGr : Gr (tJs (d + 2 + 1)) Jq 38 vkq (ks6 ++ ptK plats) Mq := by
   first
    | (rw [hpe, ptK, List.append_nil]; exact hGq)
    | (rw [ptK_head hq0]; exact hGq)
  have hptl := ptK_len plats
  have hnr : (ks6 ++ ptK plats).length <= 14 := by rw [List.length_append]; omega
  refine rP 3 (fun Z hZ => (eE rfl (eE rfl (gY (Yv.load 1 T rfl rfl rfl rfl) (zN hZ ((Ops.callP (N := [_, _]) (object_text (d + 2) Jq b3 [97, 114, 116, 105, 102, 97, 99, 116, 84, 121, 112, 101] art (ks6 ++ ptK plats) vkq Mq hGr (by omega)) (.refl _) rfl dc call20 rfl ?_)))))))
  rintro y Jr Nr jr ⟨vkr, Mr, rfl, hGf⟩
  refine Ops.nil (rS (Run.keepGr hGf (N := [_, _, _]) (List.perm_append_comm (l₁ := [_, _, _]) (l₂ := Mr)) fun JF lF hSl => ?_))
  obtain ⟨AF, cF, rfl⟩ := hSl.isSl
  refine Run.region (oP rfl (oP rfl (oP rfl (Ops.loadN 2 rfl dc rfl rfl (T.aggOk rfl) (T.sizeOk rfl) rfl rfl (Ops.store 0 rfl rfl rfl rfl rfl (T.sizeOk rfl) rfl (lb rfl) rfl rfl (Ops.nil ?_))))))
  skip
  refine Run.retC T 0 (by rw [hCf]; exact func21) results21 rfl rfl rfl rfl rfl rfl (hR _ _ _ ?_)
  refine ⟨rfl, _, rfl, ?_⟩
  have e : ks6 ++ ptK plats ++ opJ [97, 114, 116, 105, 102, 97, 99, 116, 84, 121, 112, 101] art = dsK ⟨media, size, dig, data, urls, anns, plats, art⟩ := by simp only [hks6, hks5, hks4, hks3, hks2, hks1]; rfl
  rw [e] at hSl ⊢
  exact hSl
end Go.V
namespace Go.V
open Go.Proofs.Tryz
open Go.RowKit
set_option maxRecDepth 10000
attribute [local irreducible] Run Ops QD
theorem Cells.one_ds {I : Imm} {cs : List Value} {xs : List Ds} (hC : Cells tDs I cs xs) : V.one cs = true := hC.one_of fun cs x h => by
 obtain ⟨A, a, A', a', A2, a2, rfl, _⟩ := h
 rfl
def goodM (m : Mf) : Prop := (∀ d ∈ m.lays ++ m.subj, goodD d) /\ (m.idx = false -> goodD m.cfg) /\ m.lays.length <= 10 /\ m.subj.length <= 1 /\ Asc m.anns /\ (aTexts m.anns ++ [m.media, m.art]).length <= 60 /\ ∀ s ∈ aTexts m.anns ++ [m.media, m.art], goodS s
set_option maxHeartbeats 4000000 in
theorem laws_manifestGood (I : Imm) (hU : UT I) (m : Mf) (A1 : Option Addr) (n1 c1 : Nat) (A2 : Option Addr) (n2 c2 : Nat) (A3 : Option Addr) (n3 c3 : Nat) (A4 : Option Addr) (n4 c4 : Nat) (A5 : Option Addr) (n5 c5 : Nat) (A6 : Option Addr) (n6 c6 : Nat)
  (hL : MfL I m (.slice A1 n1 c1) (.slice A2 n2 c2) (.slice A3 n3 c3) (.slice A4 n4 c4) (.slice A5 n5 c5) (.slice A6 n6 c6)) (hfit : fitMf m) :
  Pure prog 5 [.agg (m.cs (.slice A1 n1 c1) (.slice A2 n2 c2) (.slice A3 n3 c3) (.slice A4 n4 c4) (.slice A5 n5 c5) (.slice A6 n6 c6)).toArray] I fun w J => ∃ r, w = .bool r /\ (r = true -> goodM m) := by
 obtain ⟨idx, ver, media, cfg, lays, anns, subj, art⟩ := m
 obtain ⟨hd, hl, ha, hs⟩ := hL
 obtain ⟨f1, f2, f3, f4, f5, f6⟩ := hfit
 simp only at hd hl ha hs f1 f2 f3 f4 f5 f6
 obtain ⟨_, _, e1, _⟩ := id hl
 obtain ⟨_, _, e2, _⟩ := id ha
 obtain ⟨_, _, e3, _⟩ := id hs
 obtain ⟨_, _, e4, _⟩ := id hd.1
 obtain ⟨_, _, e5, _⟩ := id hd.2.1
 obtain ⟨_, _, e6, _⟩ := id hd.2.2
 cases e1
 cases e2
 cases e3
 cases e4
 cases e5
 cases e6
 have f3l := f3.1
 have f5l := f5.1
 refine Spec.enter 74 [(0, _)] func5 rfl ntmps5 (by simp) rfl ?_
 intro C hCf hR hCI
 refine rS ?_
 refine Run.region (Ops.box rfl dc rfl rfl (fun b1 => (oP rfl (Ops.nil (rS ?_)))))
 obtain ⟨ob, hob⟩ : ∃ ob, ob = blk (Mf.cs ⟨idx, ver, media, cfg, lays, anns, subj, art⟩ (.slice A1 cfg.urls.length c1) (.slice A2 cfg.anns.length c2) (.slice A3 cfg.plats.length c3) (.slice A4 lays.length c4) (.slice A5 anns.length c5) (.slice A6 subj.length c6)) 31 := ⟨_, rfl⟩
 refine Run.regionAny (Holds I [(b1, blk (Mf.cs ⟨idx, ver, media, cfg, lays, anns, subj, art⟩ (.slice A1 cfg.urls.length c1) (.slice A2 cfg.anns.length c2) (.slice A3 cfg.plats.length c3) (.slice A4 lays.length c4) (.slice A5 anns.length c5) (.slice A6 subj.length c6)) 31)]) (bl 8 0) (by kernel_rfl) (by kernel_rfl) (RAny.tk 1 (bl 8 2) rfl (by kernel_rfl) dc (fun W h => h.holds (Le.refl _) (by first | exact mp rfl | exact mq rfl)) (Yld.eval T rfl rfl) (RAny.tk 2 (bl 8 6) rfl (by kernel_rfl) dc (fun W h => h.holds (Le.refl _) (by first | exact mp rfl | exact mq rfl)) (Yld.load 0 T rfl rfl rfl rfl rfl) (RAny.tk 4 (bl 8 22) rfl (by kernel_rfl) dc (fun W h => h.holds (Le.refl _) (by first | exact mp rfl | exact mq rfl)) (Yld.eval T rfl rfl) (RAny.tk 5 (bl 8 54) rfl (by kernel_rfl) dc (fun W h => h.holds (Le.refl _) (by first | exact mp rfl | exact mq rfl)) (Yld.load 0 T rfl rfl rfl rfl rfl) ?_))))
 refine RAny.on 0 (bl 8 55) rfl (by kernel_rfl) rfl dc (Eff.lit0 T rfl rfl rfl fun b0 => ⟨fun W h => h.holds (Le.refl _) (by exact mq rfl), (RAny.on 3 (bl 8 63) rfl (by kernel_rfl) rfl dc (Eff.appSl (M := [(b0, _)]) (N := [_]) el29 (Gr.lit0 tDs _ _ b0) hl (fun _ h => h.one_ds) rfl rfl (.refl _) (by simp only [List.length_nil]; omega) (by simp only [List.length_nil]; omega) fun v1 M1 hG1 => ⟨fun W h => h.holds (Le.refl _) (by intro x hx; rcases List.mem_singleton.1 hx with rfl; exact List.mem_append_right _ List.mem_cons_self), ?_⟩))⟩)
 rw [List.nil_append] at hG1
 refine RAny.on 6 (bl 8 127) rfl (by kernel_rfl) rfl dc (Eff.appSl (M := M1) (N := [_]) el29 hG1 hs (fun _ h => h.one_ds) rfl rfl (.refl _) (by omega) (by omega) fun v2 M2 hG2 => ⟨fun W h => h.holds (Le.refl _) (by intro x hx; rcases List.mem_singleton.1 hx with rfl; exact List.mem_append_right _ List.mem_cons_self), (RAny.perm (List.perm_append_comm (l₁ := M2) (l₂ := [_])) (RAny.tk 7 (bl 8 255) rfl (by kernel_rfl) dc (fun W h => h.holds (Le.refl _) (by first | exact mp rfl | exact mq rfl)) (Yld.eval T rfl rfl) (RAny.done _ (by kernel_rfl) ?_)))⟩)
 repeat refine rS ?_
 refine rO (fun Z hZ => (eE rfl (gY (Yv.load 0 T rfl rfl rfl rfl) (eE rfl (zN hZ ?_)))))
 skip
 refine Run.keep [1, 3, 18] [_, _, _] rfl ?_
 refine Run.piece (fun env' L' I' => ∃ v M, env' = [(1, .pointer (some ⟨b1, 0, none⟩)), (3, v)] /\ L' = (b1, ob) :: M /\ Gr tDs I 28 v (lays ++ subj ++ if idx then [] else [cfg]) M /\ I = I') ?_ ?_
 ·intro k' fin
  subst hob
  cases idx with
  | true =>
   repeat (first | refine rK ?_ | refine rF rfl ?_)
   refine Run.keep [1, 3] [_, _] rfl ?_
   exact fin _ _ _ ⟨v2, M2, rfl, rfl, by simpa using hG2, rfl⟩
  | false =>
   refine rT rfl ?_
   refine rP 3 (fun Z hZ => (eE rfl (eE rfl (gY (Yv.loadN 0 T rfl rfl rfl rfl rfl rfl) (zN hZ ((Ops.lit T rfl rfl rfl dc rfl dc dc rfl rfl rfl rfl rfl (fun bq => (Ops.appOne (N := [_]) el29 hG2 ⟨_, _, _, _, _, _, rfl, hd⟩ rfl dc rfl rfl rfl rfl (by rw [List.length_append]; omega) (by rw [List.length_append]; omega) fun v3 M3 hG3 => (oP rfl (Ops.nil ?_)))))))))))
   skip
   refine Run.keep [1, 3] [_, _] rfl ?_
   exact fin _ _ _ ⟨v3, M3, rfl, rfl, by simpa using hG3, rfl⟩
 rintro env L J ⟨v, M, rfl, rfl, hG, rfl⟩
 have hlsf : ∀ x ∈ lays ++ subj ++ (if idx then [] else [cfg]), fitDs x := by
  intro x hx
  rcases List.mem_append.1 hx with hx | hx
  ·rcases List.mem_append.1 hx with hx | hx
   ·exact f3.2 x hx
   ·exact f5.2 x hx
  ·cases idx
   ·simp at hx; subst hx; exact f2
   ·simp at hx
 have hlsl : (lays ++ subj ++ (if idx then [] else [cfg])).length <= 4294967297 := by
  rw [List.length_append, List.length_append]
  cases idx <;> simp <;> omega
 have hgM : (∀ x ∈ lays ++ subj ++ (if idx then [] else [cfg]), goodD x) -> (∀ d ∈ lays ++ subj, goodD d) /\ (idx = false -> goodD cfg) := by
  intro h
  refine ⟨fun d hd => h d (List.mem_append_left _ hd), fun hi => h cfg ?_⟩
  rw [hi]; simp
 generalize lays ++ subj ++ (if idx then [] else [cfg]) = ls at *
 obtain ⟨Al, cl, rfl⟩ := hG.isSl
 refine Run.keepGr hG (N := [(b1, ob)]) (List.perm_append_comm (l₁ := [_]) (l₂ := M)) fun J1 l1 hSl => ?_
 repeat refine rS ?_
 refine rO (fun Z hZ => (eE rfl (eE rfl (eE rfl (zN hZ ((rB (Run.keep [1, 24, 25, 26] [_, _, _, _] rfl (Run.rounds (fun m env L J => ∃ i : Nat, m = ls.length - i /\ i <= ls.length /\ (∀ x ∈ ls.take i, goodD x) /\ env = [(1, .pointer (some ⟨b1, 0, none⟩)), (24, .slice Al ls.length cl), (25, .int .i64 (ls.length : Int)), (26, .int .i64 (i : Int))] /\ L = [(b1, ob)] /\ Le J1 J) ls.length ⟨0, by omega, by omega, by simp, rfl, rfl, Le.refl _⟩ ?_)))))))))
 rintro m env L J ⟨i, rfl, hi, hdone, rfl, rfl, hle⟩ ih
 by_cases hlt : i < ls.length
 ·skip
  refine rS ?_
  refine rO (fun Z hZ => (kT (Ev.lss rfl rfl) (by omega) (zN hZ ?_)))
  repeat (first | refine rS ?_ | refine rK ?_ | refine rB ?_ | refine rT rfl ?_)
  refine Run.region (Ops.indexSl (j := (i : Int)) (hSl.mono hle) rfl dc rfl rfl (T.undOk rfl) (T.sizeOk rfl) (by omega) (by omega) fun bb off q cs hq hr hA => ?_)
  obtain ⟨B1, d1, B2, d2, B3, d3, rfl, hqL⟩ := hr
  rw [Int.toNat_natCast] at hq
  refine Ops.loadIN rfl dc rfl hA (T.aggOk rfl) (T.sizeOk rfl) rfl (Ops.alloc rfl dc (T.zeroOk rfl) rfl (fun b5 => (Ops.store 0 rfl rfl rfl rfl rfl (T.sizeOk rfl) rfl (lb rfl) rfl rfl (Ops.nil (rS (rP 1 (fun Z hZ => (gY (Yv.loadN 0 T rfl rfl rfl rfl rfl rfl) (zN hZ ((Ops.call ((laws_descriptorGood J (hU.mono (l1.trans hle)) q _ _ _ _ _ _ _ _ _ hqL (hlsf q (List.mem_of_getElem? hq)))) rfl dc call14 rfl ?_)))))))))))
  rintro _ J2 l2 ⟨r, rfl, hg⟩
  refine oP rfl (Ops.nil ?_)
  cases r with
  | false =>
   repeat (first | refine rS ?_ | refine rT rfl ?_)
   refine rO (fun Z hZ => (eE rfl (zN hZ ?_)))
   skip
   refine Run.fin (Run.ret1 (by rw [hCf]; exact func5) results5 rfl (hR _ _ _ ?_))
   exact ⟨rfl, false, rfl, by simp⟩
  | true =>
   repeat (first | refine rK ?_ | refine rI ?_ | refine rF rfl ?_)
   refine Run.dropL (List.sublist_cons_self _ _) ?_
   refine rO (fun Z hZ => (fE (Ev.addK (r := ((i + 1 : Nat) : Int)) rfl rfl (by rw [wI (by omega) (by omega)]; omega)) (eE rfl (zN hZ ?_))))
   skip
   refine Run.keep [1, 24, 25, 26] [_, _, _, _] rfl ?_
   refine ih (ls.length - (i + 1)) _ _ _ (by omega) ⟨i + 1, rfl, by omega, ?_, rfl, rfl, hle.trans l2⟩
   intro x hx
   obtain ⟨hi', rfl⟩ := List.getElem?_eq_some_iff.1 hq
   rw [List.take_succ_eq_append_getElem hi'] at hx
   rcases List.mem_append.1 hx with hx | hx
   ·exact hdone x hx
   ·rw [List.mem_singleton.1 hx]; exact hg rfl
 ·obtain rfl : i = ls.length := by omega
  rw [List.take_length] at hdone
  have hgood := hgM hdone
  clear ih hdone hgM
  subst hob
  have hle1 := l1.trans hle
  have ha1 := ha.mono hle1
  refine rS ?_
  refine rO (fun Z hZ => (kF (Ev.lss rfl rfl) (by omega) (zN hZ ?_)))
  repeat (first | refine rS ?_ | refine Run.exit rfl ?_ | refine rF rfl ?_)
  refine rO (fun Z hZ => (eE rfl (zN hZ ?_)))
  repeat refine rS ?_
  refine rO (fun Z hZ => (eE rfl (gY (Yv.load 0 T rfl rfl rfl rfl) (eE rfl (eE rfl (zN hZ ((rB (Run.keep [1, 6, 35, 36, 37] [_, _, _, _, _] rfl ?_)))))))))
  refine Run.rounds (fun m env L J' => ∃ (i : Nat) (v : Value) (M : Own), m = anns.length - i /\ i <= anns.length /\ Gr tStr J' 9 v (aTexts (anns.take i)) M /\
   env = [(1, .pointer (some ⟨b1, 0, none⟩)), (6, v), (35, .slice A5 anns.length c5), (36, .int .i64 (anns.length : Int)), (37, .int .i64 (i : Int))] /\
   L = (b1, blk (Mf.cs ⟨idx, ver, media, cfg, lays, anns, subj, art⟩ (.slice A1 cfg.urls.length c1) (.slice A2 cfg.anns.length c2) (.slice A3 cfg.plats.length c3) (.slice A4 lays.length c4) (.slice A5 anns.length c5) (.slice A6 subj.length c6)) 31) :: M /\ J = J') anns.length ⟨0, _, [], by omega, by omega, Gr.nil _ _ _, rfl, rfl, rfl⟩ ?_
  rintro m env L J' ⟨i, v, M, rfl, hi, hG, rfl, rfl, rfl⟩ ih
  have hxl : (aTexts (anns.take i)).length <= 2 * i := by rw [aTexts_len, List.length_take]; omega
  by_cases hlt : i < anns.length
  ·skip
   refine rS ?_
   refine rO (fun Z hZ => (kT (Ev.lss rfl rfl) (by omega) (zN hZ ?_)))
   repeat (first | refine rS ?_ | refine rK ?_ | refine rB ?_ | refine rT rfl ?_)
   refine Run.region (Ops.indexSl (j := (i : Int)) ha1 rfl dc rfl rfl (T.undOk rfl) (T.sizeOk rfl) (by omega) (by omega) fun bb off q cs hq hr hA => ?_)
   obtain rfl : cs = [str q.1, str q.2] := hr
   rw [Int.toNat_natCast] at hq
   refine Ops.loadIN rfl dc rfl hA (T.aggOk rfl) (T.sizeOk rfl) rfl (Ops.alloc rfl dc (T.zeroOk rfl) rfl (fun b8 => (Ops.store 0 rfl rfl rfl rfl rfl (T.sizeOk rfl) rfl (lb rfl) rfl rfl (Ops.nil ?_))))
   skip
   refine rP 5 (fun Z hZ => (eE rfl (eE rfl (gY (Yv.load 0 T rfl rfl rfl rfl) (eE rfl (gY (Yv.load 0 T rfl rfl rfl rfl) (zN hZ ((Ops.lit T rfl rfl rfl dc rfl dc dc rfl rfl rfl rfl rfl (fun bq2 => (Ops.appMany (t := tStr) (N := [_, _]) (q := 2) (ys := [q.1, q.2]) el24 hG (Cells.strs _) rfl rfl dc rfl rfl rfl rfl (by omega) (by omega) fun v' M' hG' => (oP rfl (Ops.nil (rI (Run.dropL (List.sublist_cons_self _ _) (rO (fun Z hZ => (fE (Ev.addK (r := ((i + 1 : Nat) : Int)) rfl rfl (by rw [wI (by omega) (by omega)]; omega)) (eE rfl (zN hZ ?_))))))))))))))))))))
   skip
   refine Run.keep [1, 6, 35, 36, 37] [_, _, _, _, _] rfl ?_
   refine ih (anns.length - (i + 1)) _ _ _ (by omega) ⟨i + 1, v', M', rfl, by omega, ?_, rfl, rfl, rfl⟩
   obtain ⟨hi', rfl⟩ := List.getElem?_eq_some_iff.1 hq
   rw [List.take_succ_eq_append_getElem hi', aTexts, List.flatMap_append, List.flatMap_singleton]
   exact hG'
  ·obtain rfl : i = anns.length := by omega
   rw [List.take_length] at hG
   have hat := aTexts_len anns
   have haf := aTexts_fit f4.2
   clear ih
   have f4l := f4.1
   refine rS ?_
   refine rO (fun Z hZ => (kF (Ev.lss rfl rfl) (by omega) (zN hZ ?_)))
   repeat (first | refine rS ?_ | refine Run.exit rfl ?_ | refine rF rfl ?_)
   by_cases g1 : lays.length <= 10
   ·by_cases g2 : subj.length <= 1
    ·skip
     refine rP 13 (fun Z hZ => (eE rfl (gY (Yv.load 0 T rfl rfl rfl rfl) (eE rfl (kT (Ev.leq rfl rfl) (by omega) (eE rfl (eE rfl (gY (Yv.load 0 T rfl rfl rfl rfl) (eE rfl (kT (Ev.leq rfl rfl) (by omega) (eE rfl (eE rfl (eE rfl (gY (Yv.load 0 T rfl rfl rfl rfl) (zN hZ ((Ops.call ((laws_pairsGood J anns _ ha1 f4l)) rfl dc call15 rfl ?_)))))))))))))))))
     rintro _ J2 l2 ⟨r, rfl, g3⟩
     cases r with
     | false =>
      skip
      iterate 2 refine oP rfl ?_
      iterate 8 refine Ops.not rfl dc ?_
      iterate 2 refine oP rfl ?_
      refine Ops.nil ?_
      skip
      refine Run.fin (Run.ret1 (by rw [hCf]; exact func5) results5 rfl (hR _ _ _ ?_))
      exact ⟨rfl, false, rfl, by simp⟩
     | true =>
      skip
      iterate 4 refine oP rfl ?_
      refine Ops.load 0 rfl dc rfl rfl (T.aggOk rfl) rfl (oP rfl (Ops.load 0 rfl dc rfl rfl (T.aggOk rfl) rfl (Ops.lit T rfl rfl rfl dc rfl dc dc rfl rfl rfl rfl rfl (fun bq3 => (Ops.appMany (t := tStr) (N := [_]) (q := 2) (ys := [media, art]) el24 (hG.mono l2) (Cells.strs _) rfl rfl dc rfl rfl rfl rfl (by omega) (by omega) fun v' M' hG' => ?_)))))
      obtain ⟨Ax, cx, rfl⟩ := hG'.isSl
      refine Ops.keepGr hG' (N := [_]) (List.perm_append_comm (l₁ := [_]) (l₂ := M')) fun J5 l5 hSt => ?_
      have hts : ∀ s ∈ aTexts anns ++ [media, art], s.length <= 2147483647 := by
       intro s hs
       rcases List.mem_append.1 hs with hs | hs
       ·exact haf s hs
       ·simp only [List.mem_cons, List.not_mem_nil, or_false] at hs
        rcases hs with rfl | rfl
        ·exact f1
        ·exact f6
      refine Ops.call ((laws_textsGood J5 (hU.mono ((hle1.trans l2).trans l5)) _ _ hSt hts (by rw [List.length_append]; simp only [List.length_cons, List.length_nil]; omega))) rfl dc call16 rfl ?_
      rintro _ J6 l6 ⟨r, rfl, hg⟩
      iterate 2 refine oP rfl ?_
      refine Ops.nil ?_
      skip
      refine Run.fin (Run.ret1 (by rw [hCf]; exact func5) results5 rfl (hR _ _ _ ?_))
      refine ⟨rfl, r, by simp, fun h => ⟨hgood.1, hgood.2, g1, g2, g3 rfl, ?_⟩⟩
      exact hg h
    ·skip
     refine rP 21 (fun Z hZ => (eE rfl (gY (Yv.load 0 T rfl rfl rfl rfl) (eE rfl (kT (Ev.leq rfl rfl) (by omega) (eE rfl (eE rfl (gY (Yv.load 0 T rfl rfl rfl rfl) (eE rfl (kF (Ev.leq rfl rfl) (by omega) (eE rfl (eE rfl (oF (oF (oF (eE rfl (eE rfl ?_)))))))))))))))))
     iterate 5 refine oF ?_
     refine zN hZ ((Ops.not rfl dc (Ops.not rfl dc (Ops.not rfl dc (oP rfl (oP rfl (Ops.nil ?_)))))))
     skip
     refine Run.fin (Run.ret1 (by rw [hCf]; exact func5) results5 rfl (hR _ _ _ ?_))
     exact ⟨rfl, false, rfl, by simp⟩
   ·skip
    refine rP 21 (fun Z hZ => (eE rfl (gY (Yv.load 0 T rfl rfl rfl rfl) (eE rfl (kF (Ev.leq rfl rfl) (by omega) (eE rfl ?_))))))
    iterate 4 refine oF ?_
    iterate 2 refine eE rfl ?_
    iterate 3 refine oF ?_
    iterate 2 refine eE rfl ?_
    iterate 5 refine oF ?_
    refine zN hZ ((Ops.not rfl dc (Ops.not rfl dc (Ops.not rfl dc (oP rfl (oP rfl (Ops.nil ?_)))))))
    skip
    refine Run.fin (Run.ret1 (by rw [hCf]; exact func5) results5 rfl (hR _ _ _ ?_))
    exact ⟨rfl, false, rfl, by simp⟩
end Go.V
