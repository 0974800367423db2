import Derived.Test.YtandfbmdopbikaaGreatDoorXM1
import Derived.Test.YtandfbmdopbikaaGreatDoorProg
import Derived.KernelRfl
import Derived.Test.YtandfbmdopbikaaGreatDoorXM3
import Derived.LaidEql
import Derived.Laws.MakeOwn
import Derived.Laws.BytesString
import Derived.Test.YtandfbmdopbikaaGreatDoorXM2
import Derived.LaidLaws
import Derived.MakeChecks
import Derived.ChangeBears2
import Derived.Lay
import Derived.Stop.Joined
import Derived.Deep.DeepHandedRow
namespace Go.V
open Go.Proofs.Tryz
set_option linter.unusedVariables false
set_option maxRecDepth 100000
noncomputable def undL : List TypeDesc := [t0.desc, t1.desc, t2.desc, t3.desc, t4.desc, t5.desc, t5.desc, t7.desc, t7.desc, t9.desc, t9.desc, t9.desc, t12.desc, t13.desc, t13.desc, t15.desc, t16.desc, t17.desc, t18.desc, t18.desc, t20.desc, t21.desc, t22.desc, t22.desc, t24.desc, t25.desc, t25.desc, t27.desc, t28.desc, t29.desc, t29.desc, t31.desc, t32.desc, t33.desc, t34.desc, t35.desc, t36.desc, t37.desc, t38.desc, t39.desc, t40.desc, t41.desc, t42.desc, t43.desc, t44.desc, t45.desc, t46.desc, t46.desc, t48.desc, t48.desc, t50.desc, t51.desc, t52.desc, t53.desc, t54.desc, t55.desc, t56.desc, t56.desc, t58.desc, t59.desc, t60.desc, t60.desc, t62.desc, t63.desc, t64.desc, t64.desc, t66.desc, t67.desc, t68.desc, t69.desc, t70.desc, t71.desc, t72.desc, t73.desc, t74.desc, t75.desc, t76.desc, t76.desc, t78.desc, t79.desc, t80.desc, t81.desc, t82.desc, t83.desc, t84.desc, t85.desc, t85.desc, t87.desc, t88.desc, t89.desc, t90.desc, t91.desc, t92.desc, t93.desc, t94.desc, t95.desc, t96.desc, t97.desc, t98.desc, t99.desc, t100.desc, t101.desc, t102.desc, t103.desc, t104.desc, t105.desc, t106.desc, t107.desc, t108.desc, t108.desc, t110.desc, t111.desc, t112.desc, t113.desc, t114.desc, t114.desc, t116.desc, t117.desc, t117.desc, t119.desc, t120.desc, t121.desc, t122.desc, t123.desc, t124.desc, t124.desc, t126.desc, t127.desc, t128.desc, t9.desc, t130.desc, t130.desc, t132.desc, t133.desc, t133.desc, t135.desc, t136.desc, t136.desc, t138.desc, t139.desc, t140.desc, t141.desc, t142.desc, t143.desc, t144.desc, t145.desc, t146.desc, t147.desc, t148.desc, t149.desc, t150.desc, t151.desc, t152.desc, t153.desc, t154.desc, t155.desc, t156.desc, t157.desc, t158.desc, t159.desc, t160.desc, t161.desc, t161.desc, t163.desc, t164.desc, t165.desc, t165.desc, t167.desc, t168.desc, t168.desc, t170.desc, t5.desc, t5.desc, t173.desc, t21.desc, t21.desc, t176.desc, t176.desc, t9.desc, t179.desc, t180.desc, t181.desc]
noncomputable def tiL : List TypeInfo := [t0, t1, t2, t3, t4, t5, t6, t7, t8, t9, t10, t11, t12, t13, t14, t15, t16, t17, t18, t19, t20, t21, t22, t23, t24, t25, t26, t27, t28, t29, t30, t31, t32, t33, t34, t35, t36, t37, t38, t39, t40, t41, t42, t43, t44, t45, t46, t47, t48, t49, t50, t51, t52, t53, t54, t55, t56, t57, t58, t59, t60, t61, t62, t63, t64, t65, t66, t67, t68, t69, t70, t71, t72, t73, t74, t75, t76, t77, t78, t79, t80, t81, t82, t83, t84, t85, t86, t87, t88, t89, t90, t91, t92, t93, t94, t95, t96, t97, t98, t99, t100, t101, t102, t103, t104, t105, t106, t107, t108, t109, t110, t111, t112, t113, t114, t115, t116, t117, t118, t119, t120, t121, t122, t123, t124, t125, t126, t127, t128, t129, t130, t131, t132, t133, t134, t135, t136, t137, t138, t139, t140, t141, t142, t143, t144, t145, t146, t147, t148, t149, t150, t151, t152, t153, t154, t155, t156, t157, t158, t159, t160, t161, t162, t163, t164, t165, t166, t167, t168, t169, t170, t171, t172, t173, t174, t175, t176, t177, t178, t179, t180, t181]
def AllU (P : Program) : Nat → List TypeDesc → Prop
  | _, [] => True
  | i, u :: r => (∀ w, (underlying i).run P w = .ok u w) ∧ AllU P (i + 1) r
def AllI (P : Program) : Nat → List TypeInfo → Prop
  | _, [] => True
  | i, u :: r => (∀ w, (typeInfo i).run P w = .ok u w) ∧ AllI P (i + 1) r
theorem AllU.get {P : Program} : ∀ {l : List TypeDesc} {i t : Nat} {u : TypeDesc}, AllU P i l → l[t]? = some u → ∀ w, (underlying (i + t)).run P w = .ok u w
  | [], i, t, u, _, h => by simp at h
  | x :: r, i, 0, u, h, e => by simp at e; subst e; exact h.1
  | x :: r, i, t + 1, u, h, e => by
    have := AllU.get h.2 (t := t) (by simpa using e)
    rwa [show i + 1 + t = i + (t + 1) by omega] at this
theorem AllI.get {P : Program} : ∀ {l : List TypeInfo} {i t : Nat} {u : TypeInfo}, AllI P i l → l[t]? = some u → ∀ w, (typeInfo (i + t)).run P w = .ok u w
  | [], i, t, u, _, h => by simp at h
  | x :: r, i, 0, u, h, e => by simp at e; subst e; exact h.1
  | x :: r, i, t + 1, u, h, e => by
    have := AllI.get h.2 (t := t) (by simpa using e)
    rwa [show i + 1 + t = i + (t + 1) by omega] at this
theorem undL_all : AllU prog 0 undL := ⟨runUnderlying0, runUnderlying1, runUnderlying2, runUnderlying3, runUnderlying4, runUnderlying5, runUnderlying6, runUnderlying7, runUnderlying8, runUnderlying9, runUnderlying10, runUnderlying11, runUnderlying12, runUnderlying13, runUnderlying14, runUnderlying15, runUnderlying16, runUnderlying17, runUnderlying18, runUnderlying19, runUnderlying20, runUnderlying21, runUnderlying22, runUnderlying23, runUnderlying24, runUnderlying25, runUnderlying26, runUnderlying27, runUnderlying28, runUnderlying29, runUnderlying30, runUnderlying31, runUnderlying32, runUnderlying33, runUnderlying34, runUnderlying35, runUnderlying36, runUnderlying37, runUnderlying38, runUnderlying39, runUnderlying40, runUnderlying41, runUnderlying42, runUnderlying43, runUnderlying44, runUnderlying45, runUnderlying46, runUnderlying47, runUnderlying48, runUnderlying49, runUnderlying50, runUnderlying51, runUnderlying52, runUnderlying53, runUnderlying54, runUnderlying55, runUnderlying56, runUnderlying57, runUnderlying58, runUnderlying59, runUnderlying60, runUnderlying61, runUnderlying62, runUnderlying63, runUnderlying64, runUnderlying65, runUnderlying66, runUnderlying67, runUnderlying68, runUnderlying69, runUnderlying70, runUnderlying71, runUnderlying72, runUnderlying73, runUnderlying74, runUnderlying75, runUnderlying76, runUnderlying77, runUnderlying78, runUnderlying79, runUnderlying80, runUnderlying81, runUnderlying82, runUnderlying83, runUnderlying84, runUnderlying85, runUnderlying86, runUnderlying87, runUnderlying88, runUnderlying89, runUnderlying90, runUnderlying91, runUnderlying92, runUnderlying93, runUnderlying94, runUnderlying95, runUnderlying96, runUnderlying97, runUnderlying98, runUnderlying99, runUnderlying100, runUnderlying101, runUnderlying102, runUnderlying103, runUnderlying104, runUnderlying105, runUnderlying106, runUnderlying107, runUnderlying108, runUnderlying109, runUnderlying110, runUnderlying111, runUnderlying112, runUnderlying113, runUnderlying114, runUnderlying115, runUnderlying116, runUnderlying117, runUnderlying118, runUnderlying119, runUnderlying120, runUnderlying121, runUnderlying122, runUnderlying123, runUnderlying124, runUnderlying125, runUnderlying126, runUnderlying127, runUnderlying128, runUnderlying129, runUnderlying130, runUnderlying131, runUnderlying132, runUnderlying133, runUnderlying134, runUnderlying135, runUnderlying136, runUnderlying137, runUnderlying138, runUnderlying139, runUnderlying140, runUnderlying141, runUnderlying142, runUnderlying143, runUnderlying144, runUnderlying145, runUnderlying146, runUnderlying147, runUnderlying148, runUnderlying149, runUnderlying150, runUnderlying151, runUnderlying152, runUnderlying153, runUnderlying154, runUnderlying155, runUnderlying156, runUnderlying157, runUnderlying158, runUnderlying159, runUnderlying160, runUnderlying161, runUnderlying162, runUnderlying163, runUnderlying164, runUnderlying165, runUnderlying166, runUnderlying167, runUnderlying168, runUnderlying169, runUnderlying170, runUnderlying171, runUnderlying172, runUnderlying173, runUnderlying174, runUnderlying175, runUnderlying176, runUnderlying177, runUnderlying178, runUnderlying179, runUnderlying180, runUnderlying181, trivial⟩
theorem tiL_all : AllI prog 0 tiL := ⟨typeInfo0, typeInfo1, typeInfo2, typeInfo3, typeInfo4, typeInfo5, typeInfo6, typeInfo7, typeInfo8, typeInfo9, typeInfo10, typeInfo11, typeInfo12, typeInfo13, typeInfo14, typeInfo15, typeInfo16, typeInfo17, typeInfo18, typeInfo19, typeInfo20, typeInfo21, typeInfo22, typeInfo23, typeInfo24, typeInfo25, typeInfo26, typeInfo27, typeInfo28, typeInfo29, typeInfo30, typeInfo31, typeInfo32, typeInfo33, typeInfo34, typeInfo35, typeInfo36, typeInfo37, typeInfo38, typeInfo39, typeInfo40, typeInfo41, typeInfo42, typeInfo43, typeInfo44, typeInfo45, typeInfo46, typeInfo47, typeInfo48, typeInfo49, typeInfo50, typeInfo51, typeInfo52, typeInfo53, typeInfo54, typeInfo55, typeInfo56, typeInfo57, typeInfo58, typeInfo59, typeInfo60, typeInfo61, typeInfo62, typeInfo63, typeInfo64, typeInfo65, typeInfo66, typeInfo67, typeInfo68, typeInfo69, typeInfo70, typeInfo71, typeInfo72, typeInfo73, typeInfo74, typeInfo75, typeInfo76, typeInfo77, typeInfo78, typeInfo79, typeInfo80, typeInfo81, typeInfo82, typeInfo83, typeInfo84, typeInfo85, typeInfo86, typeInfo87, typeInfo88, typeInfo89, typeInfo90, typeInfo91, typeInfo92, typeInfo93, typeInfo94, typeInfo95, typeInfo96, typeInfo97, typeInfo98, typeInfo99, typeInfo100, typeInfo101, typeInfo102, typeInfo103, typeInfo104, typeInfo105, typeInfo106, typeInfo107, typeInfo108, typeInfo109, typeInfo110, typeInfo111, typeInfo112, typeInfo113, typeInfo114, typeInfo115, typeInfo116, typeInfo117, typeInfo118, typeInfo119, typeInfo120, typeInfo121, typeInfo122, typeInfo123, typeInfo124, typeInfo125, typeInfo126, typeInfo127, typeInfo128, typeInfo129, typeInfo130, typeInfo131, typeInfo132, typeInfo133, typeInfo134, typeInfo135, typeInfo136, typeInfo137, typeInfo138, typeInfo139, typeInfo140, typeInfo141, typeInfo142, typeInfo143, typeInfo144, typeInfo145, typeInfo146, typeInfo147, typeInfo148, typeInfo149, typeInfo150, typeInfo151, typeInfo152, typeInfo153, typeInfo154, typeInfo155, typeInfo156, typeInfo157, typeInfo158, typeInfo159, typeInfo160, typeInfo161, typeInfo162, typeInfo163, typeInfo164, typeInfo165, typeInfo166, typeInfo167, typeInfo168, typeInfo169, typeInfo170, typeInfo171, typeInfo172, typeInfo173, typeInfo174, typeInfo175, typeInfo176, typeInfo177, typeInfo178, typeInfo179, typeInfo180, typeInfo181, trivial⟩
noncomputable def und (t : Nat) : Option TypeDesc := undL[t]?
noncomputable def tinfo (t : Nat) : Option TypeInfo := tiL[t]?
theorem und_ok {t : Nat} {u : TypeDesc} (h : und t = some u) : ∀ w, (underlying t).run prog w = .ok u w := by
  have := undL_all.get h; simpa using this
theorem tinfo_ok {t : Nat} {u : TypeInfo} (h : tinfo t = some u) : ∀ w, (typeInfo t).run prog w = .ok u w := by
  have := tiL_all.get h; simpa using this
def aggOf : TypeDesc → Bool
  | .struct _ => true
  | .array _ _ => true
  | _ => false
theorem isAgg_of {P : Program} {t : TypeId} {u : TypeDesc} (h : ∀ w, (underlying t).run P w = .ok u w) : ∀ w, (isAgg t).run P w = .ok (aggOf u) w := by
  intro w; simp only [isAgg, Sem.run_bind, h, Result.andThen_ok]; cases u <;> rfl
noncomputable def T : Tab prog where
  und := und
  size t := (tinfo t).map (·.size)
  agg t := (und t).map aggOf
  zero t := (tinfo t).bind (·.zero)
  undOk := und_ok
  sizeOk {t m} h w := by
    cases hi : tinfo t with
    | none => simp [hi] at h
    | some u => simp [hi] at h; simp [sizeOf, tinfo_ok hi, h]
  aggOk {t b} h w := by
    cases hi : und t with
    | none => simp [hi] at h
    | some u => simp [hi] at h; rw [isAgg_of (und_ok hi), h]
  zeroOk {t z} h w := by
    cases hi : tinfo t with
    | none => simp [hi] at h
    | some u => simp [hi] at h; simp [zeroValue, tinfo_ok hi, h]
theorem bd26 : ∀ w ps cells, Instr.fill (([(0, 1), (1, 1), (2, 1), (3, 1), (4, 1), (5, 1), (6, 1), (7, 1), (8, 1), (9, 1), (10, 1)] : List (Nat × Nat))[·]?) (t26.zero.getD undef).cells ps = some cells → (Instr.build 26 ps.toArray).run prog w = .ok (.agg cells) w := by
  intro w ps cells h
  simp only [t26, Option.getD] at h
  simp [Instr.build, runUnderlying26, zeroValue26, sizeOf3, sizeOf9, h]
theorem bd30 : ∀ w ps cells, Instr.fill (([(0, 1), (1, 1), (2, 1), (3, 1)] : List (Nat × Nat))[·]?) (t30.zero.getD undef).cells ps = some cells → (Instr.build 30 ps.toArray).run prog w = .ok (.agg cells) w := by
  intro w ps cells h
  simp only [t30, Option.getD] at h
  simp [Instr.build, runUnderlying30, zeroValue30, sizeOf4, sizeOf9, h]
theorem bd47 : ∀ w ps cells, Instr.fill (([(0, 1), (1, 1)] : List (Nat × Nat))[·]?) (t47.zero.getD undef).cells ps = some cells → (Instr.build 47 ps.toArray).run prog w = .ok (.agg cells) w := by
  intro w ps cells h
  simp only [t47, Option.getD] at h
  simp [Instr.build, runUnderlying47, zeroValue47, sizeOf4, sizeOf9, h]
theorem el52 : Elem prog 52 5 1 1 := ⟨underlying52, t5, _, by kernel_rfl, rfl, rfl, rfl, rfl⟩
theorem bd57 : ∀ w ps cells, Instr.fill (([(0, 2), (2, 1)] : List (Nat × Nat))[·]?) (t57.zero.getD undef).cells ps = some cells → (Instr.build 57 ps.toArray).run prog w = .ok (.agg cells) w := by
  intro w ps cells h
  simp only [t57, Option.getD] at h
  simp [Instr.build, runUnderlying57, zeroValue57, sizeOf9, sizeOf47, h]
theorem bd61 : ∀ w ps cells, Instr.fill (([(0, 3), (3, 1), (4, 1)] : List (Nat × Nat))[·]?) (t61.zero.getD undef).cells ps = some cells → (Instr.build 61 ps.toArray).run prog w = .ok (.agg cells) w := by
  intro w ps cells h
  simp only [t61, Option.getD] at h
  simp [Instr.build, runUnderlying61, zeroValue61, sizeOf9, sizeOf57, h]
theorem bd65 : ∀ w ps cells, Instr.fill (([(0, 3), (3, 1), (4, 1)] : List (Nat × Nat))[·]?) (t65.zero.getD undef).cells ps = some cells → (Instr.build 65 ps.toArray).run prog w = .ok (.agg cells) w := by
  intro w ps cells h
  simp only [t65, Option.getD] at h
  simp [Instr.build, runUnderlying65, zeroValue65, sizeOf9, sizeOf57, h]
theorem el80 : Elem prog 80 109 1 8 := ⟨underlying80, t109, _, by kernel_rfl, rfl, rfl, rfl, rfl⟩
theorem bd86 : ∀ w ps cells, Instr.fill (([(0, 1), (1, 1), (2, 1), (3, 1)] : List (Nat × Nat))[·]?) (t86.zero.getD undef).cells ps = some cells → (Instr.build 86 ps.toArray).run prog w = .ok (.agg cells) w := by
  intro w ps cells h
  simp only [t86, Option.getD] at h
  simp [Instr.build, runUnderlying86, zeroValue86, sizeOf4, sizeOf9, h]
theorem el92 : Elem prog 92 9 1 16 := ⟨underlying92, t9, _, by kernel_rfl, rfl, rfl, rfl, rfl⟩
theorem bd115 : ∀ w ps cells, Instr.fill (([(0, 1)] : List (Nat × Nat))[·]?) (t115.zero.getD undef).cells ps = some cells → (Instr.build 115 ps.toArray).run prog w = .ok (.agg cells) w := by
  intro w ps cells h
  simp only [t115, Option.getD] at h
  simp [Instr.build, runUnderlying115, zeroValue115, sizeOf9, h]
theorem bd118 : ∀ w ps cells, Instr.fill (([(0, 1), (1, 1), (2, 1)] : List (Nat × Nat))[·]?) (t118.zero.getD undef).cells ps = some cells → (Instr.build 118 ps.toArray).run prog w = .ok (.agg cells) w := by
  intro w ps cells h
  simp only [t118, Option.getD] at h
  simp [Instr.build, runUnderlying118, zeroValue118, sizeOf4, sizeOf52, h]
theorem bd134 : ∀ w ps cells, Instr.fill (([(0, 1), (1, 1), (2, 1)] : List (Nat × Nat))[·]?) (t134.zero.getD undef).cells ps = some cells → (Instr.build 134 ps.toArray).run prog w = .ok (.agg cells) w := by
  intro w ps cells h
  simp only [t134, Option.getD] at h
  simp [Instr.build, runUnderlying134, zeroValue134, sizeOf3, sizeOf52, h]
end Go.V
namespace Go.V
open Go.RowKit
set_option linter.unusedVariables false
set_option linter.unusedSimpArgs false
abbrev wb (xs : List UInt8) : List Value := xs.map w8v
def Buf (e : TypeId) (v : Value) (xs : List UInt8) (M : Own) : Prop :=
  (v = .slice none 0 0 ∧ xs = [] ∧ M = []) ∨
  ∃ b pre post cap, v = .slice (some ⟨b, pre.length, none⟩) xs.length cap ∧ M = [(b, blk (pre ++ wb xs ++ post) e)] ∧ xs.length ≤ cap ∧ cap ≤ xs.length + post.length
theorem Buf.nil (e : TypeId) : Buf e (.slice none 0 0) [] [] := .inl ⟨rfl, rfl, rfl⟩
theorem Buf.isSl {e : TypeId} {v : Value} {xs : List UInt8} {M : Own} (h : Buf e v xs M) : ∃ A c, v = .slice A xs.length c := by
  rcases h with ⟨rfl, rfl, _⟩ | ⟨b, pre, post, cap, rfl, _⟩
  · exact ⟨none, 0, rfl⟩
  · exact ⟨_, _, rfl⟩
theorem Sl.ofBytes {J : Imm} {b cap : Nat} {pre post : List Value} {xs : List UInt8} {e : TypeId} (hb : J b = some (blk (pre ++ wb xs ++ post) e)) (hc : xs.length ≤ cap) : Sl tU8 J (.slice (some ⟨b, pre.length, none⟩) xs.length cap) xs := by
  refine ⟨_, _, rfl, hc, .inr ⟨b, pre.length, rfl, fun i x hx => ⟨[w8v x], rfl, _, _, _, hb, fun j v hv => ?_⟩⟩⟩
  have hj : j = 0 := by
    cases j with
    | zero => rfl
    | succ j => simp at hv
  subst hj
  simp at hv; subst hv
  have hi : i < xs.length := (List.getElem?_eq_some_iff.1 hx).1
  simp only [show tU8.size = 1 from rfl, Nat.mul_one, Nat.add_zero]
  rw [List.getElem?_toArray, List.append_assoc, List.getElem?_append_right (by omega), Nat.add_sub_cancel_left, List.getElem?_append_left (by simpa using hi), List.getElem?_map, hx]
  rfl
theorem Buf.sl {e : TypeId} {v : Value} {xs : List UInt8} {M : Own} {J : Imm} (h : Buf e v xs M) (hJ : ∀ b o, (b, o) ∈ M → J b = some o) : Sl tU8 J v xs := by
  rcases h with ⟨rfl, rfl, _⟩ | ⟨b, pre, post, cap, rfl, rfl, hc, _⟩
  · exact Sl.nil _ _
  · exact Sl.ofBytes (hJ b _ (List.mem_singleton.2 rfl)) hc
theorem zeroCells_u8 (k : Nat) : (Builtin.zeroCells #[Value.int .u8 0] k).toList = wb (List.replicate k 0) := by
  simp [Builtin.zeroCells, wb, Array.toList_range]
  apply List.ext_getElem
  · simp
  · intro i h1 h2
    simp [Nat.mod_one]
section
variable {P : Program} {n : Nat} {C : Cx} {k : List Item} {env : Env} {L : Own} {I : Imm} {ops : Array Oper} {i : Nat} {l : List Oper}
variable {ty : TypeId} {ps : String} {af : Array Edge} {g : Option (Nat × Bool)} {d : Nat}
theorem Buf.cut {e : TypeId} {v : Value} {xs : List UInt8} {M : Own} (h : Buf e v xs M) {A : Option Addr} {m c lo : Nat} (hv : v = .slice A m c) (hlo : lo ≤ xs.length) :
    Buf e (.slice (if c = lo then A else A.map (·.add lo)) (m - lo) (c - lo)) (xs.drop lo) M := by
  rcases h with ⟨rfl, rfl, rfl⟩ | ⟨b, pre, post, cap, rfl, rfl, hc, hc2⟩
  · cases hv
    have : lo = 0 := by simpa using hlo
    subst this
    exact .inl ⟨rfl, rfl, rfl⟩
  · cases hv
    refine .inr ?_
    by_cases he : c = lo
    · rw [if_pos he]
      have hx : xs.length = lo := by omega
      have hx2 : xs.drop lo = [] := List.drop_eq_nil_of_le (by omega)
      rw [hx2]
      refine ⟨b, pre, wb xs ++ post, c - lo, by simp [hx], by simp, by simp, by simp; omega⟩
    · rw [if_neg he]
      refine ⟨b, pre ++ wb (xs.take lo), post, c - lo, ?_, ?_, by simp; omega, by simp; omega⟩
      · simp only [List.length_append, List.length_map, List.length_take, List.length_drop, Nat.min_eq_left hlo, Option.map_some, add_off]
      · have e3 : wb xs = wb (xs.take lo) ++ wb (xs.drop lo) := by rw [wb, wb, wb, ← List.map_append, List.take_append_drop]
        rw [e3]
        simp only [List.append_assoc]
theorem run_append_buf {ts tx e : TypeId} (hE : Elem P ts e 1 1) (hz : ∃ iE, P.info? e = some iE ∧ iE.zero = some (.int .u8 0)) {W : World} {w0 : World} {I0 : Imm} {L0 : List Nat} {M N : Own} {v x : Value} {xs ys : List UInt8} (hi : Inv w0 I0 L0 I (M ++ N) W)
    (hG : Buf e v xs M) (hx : Src P 1 tx x ys.length (wb ys) W) (hbytes : 2 * (xs.length + ys.length) + 512 ≤ 281474976710656) (h63 : xs.length + ys.length ≤ 4611686018427387904) :
    ∃ v' W' M', (Builtin.append_ #[ts, tx] ty #[v, x]).run P W = .ok v' W' ∧ Buf e v' (xs ++ ys) M' ∧ Inv w0 I0 L0 I (M' ++ N) W' := by
  obtain ⟨iE, z, hinfo, hzero, hs1, hb1, hzs⟩ := hE.info
  obtain ⟨iE', hinfo', hz'⟩ := hz
  obtain rfl : iE' = iE := Option.some.inj (hinfo'.symm.trans hinfo)
  obtain rfl : z = .int .u8 0 := Option.some.inj (hzero.symm.trans hz')
  have grow : ∀ (base : Option Addr) (cap : Nat), v = .slice base xs.length cap → cap < xs.length + ys.length → (Builtin.firstCells 1 xs.length (.slice base xs.length cap)).run P W.drew = .ok (wb xs).toArray W.drew →
      ∃ v' W' M', (Builtin.append_ #[ts, tx] ty #[v, x]).run P W = .ok v' W' ∧ Buf e v' (xs ++ ys) M' ∧ Inv w0 I0 L0 I (M' ++ N) W' := by
    intro base cap hv hcap hold
    have hr := run_append_grow_src (P := P) W ts tx ty e iE' _ hE.under hinfo hzero base xs.length cap (wb xs) (by rw [hs1]; exact hold) x ys.length (wb ys) (by rw [hs1]; exact hx) hcap (by omega)
      (by rw [hb1, Nat.mul_one]; exact Nat.le_trans (nextcap_le _ _ hcap) (by omega))
    subst hv
    have hge := grownCap_ge W (xs.length + ys.length) cap e
    have hcells : (wb xs ++ wb ys).toArray ++ Builtin.zeroCells (Value.int .u8 0).cells (grownCap W (xs.length + ys.length) cap e - (xs.length + ys.length)) =
        (([] : List Value) ++ wb (xs ++ ys) ++ wb (List.replicate (grownCap W (xs.length + ys.length) cap e - (xs.length + ys.length)) 0)).toArray := by
      apply Array.ext'
      rw [Array.toList_append, show (Value.int .u8 0).cells = #[Value.int .u8 0] from rfl, zeroCells_u8]
      simp
    rw [hcells] at hr
    refine ⟨_, _, [(W.heap.size, blk (([] : List Value) ++ wb (xs ++ ys) ++ wb (List.replicate (grownCap W (xs.length + ys.length) cap e - (xs.length + ys.length)) 0)) e)], hr, .inr ⟨W.heap.size, [], _, grownCap W (xs.length + ys.length) cap e, by simp, rfl, by simpa using hge, by simp; omega⟩, ?_⟩
    have h1 : Inv w0 I0 L0 I N W := hi.weakenL (List.sublist_append_right _ _)
    exact h1.drew.alloc _
  rcases hG with ⟨rfl, rfl, rfl⟩ | ⟨b, pre, post, cap, rfl, rfl, hmc, hcs⟩
  · by_cases hq : ys = []
    · subst hq
      refine ⟨.slice none 0 0, W, [], ?_, Buf.nil e, hi⟩
      have hx' : Src P iE'.size tx x 0 [] W := by rw [hs1]; exact hx
      rcases hx.kind with ⟨e', hk⟩ | hk <;>
        simp [Builtin.append_, run_underlying hE.under, run_underlying hk, sizeOf, typeInfo, hinfo, hx'.len, hx'.cells]
    · exact grow none 0 rfl (by have : 0 < ys.length := List.length_pos_iff.2 hq; simp; exact this) (by simp [Builtin.firstCells])
  · have hW := hi.fits.own b _ (List.mem_append_left _ (List.mem_singleton.2 rfl))
    by_cases hroom : xs.length + ys.length ≤ cap
    · have hsz : (pre ++ wb xs ++ post).toArray.size = pre.length + xs.length + post.length := by simp; omega
      have hr := run_append_room_src (P := P) W ts tx ty e iE' hE.under hinfo b pre.length xs.length cap x ys.length (wb ys) (by rw [hs1]; exact hx) hroom
        (fun j hj => by rw [cell_blk hW, hs1]; simp at hj ⊢; omega) (fun j hj => by simp [World.frozen?, hW, blk])
      have hst := run_storeCells_at P b (pre.length + xs.length) e (wb ys) 0 (pre ++ wb xs ++ post).toArray W hW (by rw [hsz]; simp; omega) hx.one
      have hst2 := run_storeCells_cells (P := P) b (pre.length + xs.length) (wb ys) 0 W (fun j hj => by rw [cell_blk hW]; simp at hj ⊢; omega) (fun j hj => by simp [World.frozen?, hW, blk]) hx.one
      rw [hst] at hst2
      simp only [Nat.add_zero, hs1, Nat.mul_one] at hst2 hr
      have hcs2 : (((pre ++ wb xs ++ post).toArray.toList.take (pre.length + xs.length) ++ wb ys ++ (pre ++ wb xs ++ post).toArray.toList.drop (pre.length + xs.length + (wb ys).length)).toArray) = (pre ++ wb (xs ++ ys) ++ post.drop ys.length).toArray := by
        congr 1
        show (pre ++ wb xs ++ post).take _ ++ wb ys ++ (pre ++ wb xs ++ post).drop _ = _
        have hlx : (pre ++ wb xs).length = pre.length + xs.length := by simp
        rw [← hlx, List.take_left, List.drop_append]
        simp
      rw [hcs2] at hst2
      have hw : W.setCells b (pre.length + xs.length) (wb ys) = W.setRow b (pre ++ wb (xs ++ ys) ++ post.drop ys.length).toArray := by
        injection hst2 with _ h; exact h.symm
      rw [hw] at hr
      refine ⟨_, _, [(b, blk (pre ++ wb (xs ++ ys) ++ post.drop ys.length) e)], hr, .inr ⟨b, pre, post.drop ys.length, cap, by simp, rfl, by simpa using hroom, by simp; omega⟩, ?_⟩
      exact hi.upd rfl rfl rfl (by simp) (fun c _ hcb => setRow_other W b c _ hcb) (setRow_heap W b _ _ e _ hW)
    · refine grow (some ⟨b, pre.length, none⟩) cap rfl (by omega) ?_
      have hl := run_firstCells_some (P := P) W.drew 1 xs.length ⟨b, pre.length, none⟩ xs.length cap (wb xs) (by simp) (fun j u hu => by
        rw [add_off, World.cell?_drew, cell_blk hW]
        have hj : j < xs.length := by simpa using (List.getElem?_eq_some_iff.1 hu).1
        rw [List.getElem?_toArray, List.append_assoc, List.getElem?_append_right (by omega), Nat.add_sub_cancel_left, List.getElem?_append_left (by simpa using hj)]
        exact hu)
      exact hl
structure Bt (P : Program) (ts e : TypeId) : Prop where
  el : Elem P ts e 1 1
  zero : ∃ iE, P.info? e = some iE ∧ iE.zero = some (.int .u8 0)
theorem Eff.appBuf {s x : Operand} {ts tx e : TypeId} {M N : Own} {v xv : Value} {xs ys : List UInt8} {K : Value → Own → Imm → Prop} (hE : Bt P ts e) (hs : opnd env s = some v) (hx : opnd env x = some xv) (hL : L.Perm (M ++ N)) (hG : Buf e v xs M)
    (hsrc : ∀ W, Inv C.w0 C.I0 C.L0 I L W → Src P 1 tx xv ys.length (wb ys) W) (hbytes : 2 * (xs.length + ys.length) + 512 ≤ 281474976710656)
    (next : ∀ v' M', Buf e v' (xs ++ ys) M' → K v' (M' ++ N) I) : Eff P n C env L I ⟨some d, .call ⟨.builtin .append, #[s, x], #[ts, tx]⟩, ty, ps, af, g⟩ K :=
  Eff.valW fun a W he hi => by
    obtain ⟨v', W', M', hr, hG', hi'⟩ := run_append_buf (P := P) (ty := ty) hE.el hE.zero (hi.perm hL) hG (hsrc W hi) hbytes (by omega)
    refine ⟨v', W', M' ++ N, I, .inl ?_, hi', next v' M' hG'⟩
    simp [execOp, resolve, Go.invoke, builtin, eval_opnd he hs, eval_opnd he hx, hr]
theorem Ops.appBuf {s x : Operand} {ts tx e : TypeId} {M N : Own} {v xv : Value} {xs ys : List UInt8} (hE : Bt P ts e) (hG : Buf e v xs M) (hg : want env ops g = some true) (hd : d < n) (hs : opnd env s = some v) (hx : opnd env x = some xv) (hL : L.Perm (M ++ N))
    (hsrc : ∀ W, Inv C.w0 C.I0 C.L0 I L W → Src P 1 tx xv ys.length (wb ys) W) (hbytes : 2 * (xs.length + ys.length) + 512 ≤ 281474976710656)
    (next : ∀ v' M', Buf e v' (xs ++ ys) M' → Ops P n C ops (i + 1) l k ((d, v') :: env) (M' ++ N) I) : Ops P n C ops i (⟨some d, .call ⟨.builtin .append, #[s, x], #[ts, tx]⟩, ty, ps, af, g⟩ :: l) k env L I :=
  Ops.eff hg (dOk hd) (Eff.appBuf hE hs hx hL hG hsrc hbytes next)
theorem src_own {ts e e' : TypeId} {b c : Nat} {ys : List UInt8} {pre post : List Value} (hu : P.underlying ts = some (.slice e)) {w0 : World} {I0 : Imm} {L0 : List Nat} {W : World} (hi : Inv w0 I0 L0 I L W) (hm : (b, blk (pre ++ wb ys ++ post) e') ∈ L) :
    Src P 1 ts (.slice (some ⟨b, pre.length, none⟩) ys.length c) ys.length (wb ys) W :=
  Src.ofSlice W hu ⟨b, pre.length, none⟩ ys.length c _ (by simp) (fun j u hj => by
    have hjl : j < ys.length := by simpa using (List.getElem?_eq_some_iff.1 hj).1
    rw [add_off, cell_blk (hi.fits.own b _ hm), List.getElem?_toArray, List.append_assoc, List.getElem?_append_right (by omega), Nat.add_sub_cancel_left, List.getElem?_append_left (by simpa using hjl)]
    exact hj) (fun u hu => by
        obtain ⟨y, _, rfl⟩ := List.mem_map.1 hu
        rfl)
theorem src_str {tx : TypeId} {z : List UInt8} (hu : P.underlying tx = some .string) (W : World) : Src P 1 tx (str z) z.length (wb z) W := by
  have := Src.ofString (P := P) W hu ⟨z.toArray⟩
  rw [str_size] at this
  have e : Go.byteCells ⟨z.toArray⟩ = wb z := by simp [Go.byteCells, wb]
  rw [e] at this; exact this
theorem Ops.appLit {s x : Operand} {ts e : TypeId} {b q c : Nat} {M N : Own} {v : Value} {xs : List UInt8} {news : List Value} (ys : List UInt8) (hE : Bt P ts e) (hG : Buf e v xs M) (hg : want env ops g = some true) (hd : d < n) (hs : opnd env s = some v) (hx : opnd env x = some (.slice (some ⟨b, 0, none⟩) q c))
    (hL : L = (b, blk news e) :: (N ++ M)) (hn : news = wb ys) (hq : ys.length = q) (hbytes : 2 * (xs.length + ys.length) + 512 ≤ 281474976710656)
    (next : ∀ v' M', Buf e v' (xs ++ ys) M' → Ops P n C ops (i + 1) l k ((d, v') :: env) (N ++ M') I) : Ops P n C ops i (⟨some d, .call ⟨.builtin .append, #[s, x], #[ts, ts]⟩, ty, ps, af, g⟩ :: l) k env L I := by
  subst hL; subst hn; subst hq
  refine Ops.appBuf (M := M) (N := (b, blk (wb ys) e) :: N) hE hG hg hd hs hx ?_ ?_ hbytes fun v' M' h => ?_
  · exact (List.Perm.cons _ List.perm_append_comm).trans List.perm_middle.symm
  · intro W hi
    have := src_own (P := P) (ts := ts) (pre := []) (post := []) (ys := ys) (b := b) (c := c) (e' := e) hE.el.under hi (by simp)
    simpa using this
  · exact Ops.dropL (List.Sublist.append_left (List.sublist_cons_self _ _) _) (Ops.perm List.perm_append_comm (next v' M' h))
variable {x : Operand} {ts e : TypeId}
theorem Ev.sliceLo {A : Option Addr} {m c : Nat} {lo : Operand} {kd : IntKind} {j : Nat} {size : Nat} (T : Tab P) (hu : T.und ts = some (.slice e)) (hz : T.size e = some size) (hx : opnd env x = some (.slice A m c)) (hlo : opnd env lo = some (.int kd (j : Int))) (h1 : j ≤ m) (h2 : m ≤ c) :
    Ev P n env (.slice ts x (some lo) none none) (.slice (if c = j then A else A.map (·.add (j * size))) (m - j) (c - j)) :=
  fun a W he _ _ _ _ _ => by
    have hb := run_sliceBounds (P := P) (hi := none) (lo := some (a.eval lo)) (len := m) (cap := c) (l := j) (h := m) (kd := .i64) (kd' := kd) (.inl ⟨rfl, rfl⟩) (.inr (by simp [eval_opnd he hlo])) h2 h1 W
    simp [execOp, Instr.sliceAt, Instr.slice, eval_opnd he hx, T.undOk hu, hb, T.sizeOk hz]
theorem Ev.sliceHi {A : Option Addr} {m c : Nat} {hi : Operand} {kd : IntKind} {j : Nat} {size : Nat} (T : Tab P) (hu : T.und ts = some (.slice e)) (hz : T.size e = some size) (hx : opnd env x = some (.slice A m c)) (hhi : opnd env hi = some (.int kd (j : Int))) (h1 : j ≤ c) :
    Ev P n env (.slice ts x none (some hi) none) (.slice (if c = 0 then A else A) j c) :=
  fun a W he _ _ _ _ _ => by
    have hb := run_sliceBounds (P := P) (hi := some (a.eval hi)) (lo := none) (len := m) (cap := c) (l := 0) (h := j) (kd := kd) (kd' := .i64) (.inr (by simp [eval_opnd he hhi])) (.inl ⟨rfl, rfl⟩) h1 (Nat.zero_le _) W
    have e1 : (A.map fun x => x.add 0) = A := by
      cases A with
      | none => rfl
      | some a0 => obtain ⟨b, off, sp⟩ := a0; simp [Addr.add]
    simp [execOp, Instr.sliceAt, Instr.slice, eval_opnd he hx, T.undOk hu, hb, T.sizeOk hz, e1]
end
end Go.V
namespace Go.V
open Go.RowKit
set_option linter.unusedVariables false
set_option linter.unusedSimpArgs false
section
variable {P : Program} {n : Nat} {C : Cx} {k : List Item} {env : Env} {L : Own} {I : Imm} {ops : Array Oper} {i : Nat} {l : List Oper} {S : World → Prop}
variable {ty : TypeId} {ps : String} {af : Array Edge} {g : Option (Nat × Bool)} {d : Nat}
variable {x y : Operand} {t t' : TypeId} {kd kd' : IntKind}
theorem foldl_push (xs : List UInt8) : ∀ s : ByteArray, (xs.map fun b => (b.toNat : Int)).foldl (fun r (n : Int) => r.push (UInt8.ofNat n.toNat)) s = ⟨s.data ++ xs.toArray⟩ := by
  induction xs with
  | nil => intro s; simp
  | cons x r ih =>
    intro s
    simp only [List.map_cons, List.foldl_cons]
    rw [ih]
    apply ByteArray.ext
    simp [ByteArray.push]
theorem run_bytesStr {src dst e : TypeId} {b off c : Nat} {xs : List UInt8} {W : World} (T : Tab P) (hs : T.und src = some (.slice e)) (ht : T.und dst = some .string) (he : T.und e = some (.int .u8))
    (hc : ∀ j u, (wb xs)[j]? = some u → W.cell? ⟨b, off + j, none⟩ = some u) : (convert src dst (.slice (some ⟨b, off, none⟩) xs.length c)).run P W = .ok (str xs) W := by
  have hl := run_loadCells_list (P := P) W ⟨b, off, none⟩ (wb xs) (fun j u hj => by rw [add_off]; exact hc j u hj)
  have e1 : (wb xs).length = xs.length := by simp
  rw [e1] at hl
  rw [run_convert_bytes_string W src dst e _ _ _ (und_of_run (T.undOk hs W)) (und_of_run (T.undOk he W)) (und_of_run (T.undOk ht W))]
  rw [run_bytesToString W ⟨b, off, none⟩ xs.length c (xs.map fun b => (b.toNat : Int)) (by rw [hl, List.map_map]; rfl), foldl_push]
  simp [str]
theorem run_bytesNil {src dst e : TypeId} {c : Nat} {W : World} (T : Tab P) (hs : T.und src = some (.slice e)) (ht : T.und dst = some .string) (he : T.und e = some (.int .u8)) : (convert src dst (.slice none 0 c)).run P W = .ok (str []) W := by
  rw [run_convert_bytes_string W src dst e _ _ _ (und_of_run (T.undOk hs W)) (und_of_run (T.undOk he W)) (und_of_run (T.undOk ht W))]
  rfl
theorem Yv.bytesBuf {src dst e e' : TypeId} {v : Value} {xs : List UInt8} {J : Imm} {M N : Own} (T : Tab P) (hG : Buf e' v xs N) (hm : ∀ x, x ∈ N → x ∈ M) (hs : T.und src = some (.slice e)) (ht : T.und dst = some .string) (he : T.und e = some (.int .u8)) (hx : opnd env x = some v) :
    Yv P n env (Holds J M) (.convert src dst x) (str xs) :=
  fun a W hen hS _ _ _ _ _ => by
    rcases hG with ⟨rfl, rfl, _⟩ | ⟨b, pre, post, cap, rfl, rfl, hc, _⟩
    · simp only [execOp, eval_opnd hen hx, Sem.run_bind, run_bytesNil T hs ht he, Result.andThen_ok]; rfl
    · have hW := hS.2 b _ (hm _ (List.mem_singleton.2 rfl))
      have := run_bytesStr (P := P) (c := cap) (b := b) (off := pre.length) (xs := xs) (W := W) T hs ht he (fun j u hj => by
        have hjl : j < xs.length := by simpa using (List.getElem?_eq_some_iff.1 hj).1
        rw [cell_blk hW, List.getElem?_toArray, List.append_assoc, List.getElem?_append_right (by omega), Nat.add_sub_cancel_left, List.getElem?_append_left (by simpa using hjl)]
        exact hj)
      simp only [execOp, eval_opnd hen hx, Sem.run_bind, this, Result.andThen_ok]; rfl
theorem Yv.bytesSl {src dst e : TypeId} {v : Value} {xs : List UInt8} {J : Imm} {M : Own} (T : Tab P) (hG : Sl tU8 J v xs) (hs : T.und src = some (.slice e)) (ht : T.und dst = some .string) (he : T.und e = some (.int .u8)) (hx : opnd env x = some v) :
    Yv P n env (Holds J M) (.convert src dst x) (str xs) :=
  fun a W hen hS _ _ _ _ _ => by
    obtain ⟨A, c, rfl, hc, hrow⟩ := hG
    have key : ∀ b off, (∀ j u, (wb xs)[j]? = some u → W.cell? ⟨b, off + j, none⟩ = some u) → A = some ⟨b, off, none⟩ → (execOp a.eval ⟨‹Option Tmp›, .convert src dst x, ‹TypeId›, ‹String›, ‹Array Edge›, ‹Option (Nat × Bool)›⟩).run P W = .ok (.value (str xs)) W := by
      rintro b off hcell rfl
      have := run_bytesStr (P := P) (c := c) (b := b) (off := off) (xs := xs) (W := W) T hs ht he hcell
      simp only [execOp, eval_opnd hen hx, Sem.run_bind, this, Result.andThen_ok]; rfl
    rcases hrow with rfl | ⟨b, off, rfl, hrow⟩
    · cases A with
      | none =>
        have := run_bytesNil (P := P) (c := c) (W := W) T hs ht he
        simp only [execOp, eval_opnd hen hx, Sem.run_bind, List.length_nil, this, Result.andThen_ok]; rfl
      | some a0 =>
        have hl := run_loadCells_list (P := P) W a0 [] (fun j u hj => by simp at hj)
        have h3 : (convert src dst (.slice (some a0) 0 c)).run P W = .ok (str []) W := by
          rw [run_convert_bytes_string W src dst e _ _ _ (und_of_run (T.undOk hs W)) (und_of_run (T.undOk he W)) (und_of_run (T.undOk ht W))]
          exact run_bytesToString W a0 0 c [] hl
        simp only [execOp, eval_opnd hen hx, Sem.run_bind, List.length_nil, h3, Result.andThen_ok]; rfl
    · refine key b off (fun j u hj => ?_) rfl
      have hjl : j < xs.length := by simpa using (List.getElem?_eq_some_iff.1 hj).1
      obtain ⟨cs, hr, hA⟩ := hrow j xs[j] (List.getElem?_eq_getElem hjl)
      obtain rfl : cs = _ := hr
      have h4 := hS.cell hA 0 _ rfl
      rw [List.getElem?_map, List.getElem?_eq_getElem hjl] at hj
      simp only [Option.map_some, Option.some.injEq] at hj
      subst hj
      simpa [tU8] using h4
end
end Go.V
namespace Go.V
open Go.RowKit
set_option linter.unusedVariables false
set_option linter.unusedSimpArgs false
section
variable {P : Program} {n : Nat} {C : Cx} {k : List Item} {env : Env} {L : Own} {I : Imm} {ops : Array Oper} {i : Nat} {l : List Oper} {S : World → Prop}
variable {ty : TypeId} {ps : String} {af : Array Edge} {g : Option (Nat × Bool)} {d : Nat}
variable {x y : Operand} {t t' : TypeId} {kd kd' : IntKind}
theorem Ev.slice0H {ts e : TypeId} {A : Option Addr} {m c q : Nat} {lo hi : Operand} {size : Nat} {z : Int} (T : Tab P) (hu : T.und ts = some (.slice e)) (hz : T.size e = some size) (hx : opnd env x = some (.slice A m c)) (hlo : opnd env lo = some (.int kd z)) (hz0 : z = 0) (hhi : opnd env hi = some (.int kd' (q : Int))) (h1 : q ≤ c) :
    Ev P n env (.slice ts x (some lo) (some hi) none) (.slice A q c) :=
  fun a W he _ _ _ _ _ => by
    subst hz0
    have hb := run_sliceBounds (P := P) (hi := some (a.eval hi)) (lo := some (a.eval lo)) (len := m) (cap := c) (l := 0) (h := q) (kd := kd') (kd' := kd) (.inr (by simp [eval_opnd he hhi])) (.inr (by simp [eval_opnd he hlo])) h1 (Nat.zero_le _) W
    have e1 : (A.map fun x => x.add 0) = A := by
      cases A with
      | none => rfl
      | some a0 => obtain ⟨b, off, sp⟩ := a0; simp [Addr.add]
    simp [execOp, Instr.sliceAt, Instr.slice, eval_opnd he hx, T.undOk hu, hb, T.sizeOk hz, e1]
variable {K : Value → Own → Imm → Prop}
theorem Eff.invokeM {f : FuncId} {m : String} {xs : List Operand} {ats : Array TypeId} {u rv : Value} {vs : List Value} {M N : Own} {R : Value → Imm → Own → Prop} (hs : Spec P f (rv :: vs) I M R) (hL : L.Perm (M ++ N)) (hc : ∀ args w, (callFunc f args).run P w = .ok (.enter f args) w)
    (hf : opnd env x = some (.iface t u)) (hm : ∀ w, (method (P.types.size + Made.depth) t u m).run P w = .ok (f, rv) w) (hx : opnds env xs = some vs) (next : ∀ v J M', Le I J → R v J M' → K v (M' ++ N) J) :
    Eff P n C env L I ⟨some d, .call ⟨.invoke x m, xs.toArray, ats⟩, ty, ps, af, g⟩ K :=
  Eff.callW (fun a W he => run_invoke hc he hf hm hx) hL hs next
theorem QD.invoke {D : List (Option Nat)} {Z : Env → Prop} {m : List Bool} {r : List Oper} {f : FuncId} {nm : String} {xs : List Operand} {ats : Array TypeId} {u rv v : Value} {vs : List Value} (hs : Pure P f (rv :: vs) I fun w J => w = v) (hd : d < n) (hg : wantD env D g = some true) (hc : ∀ args w, (callFunc f args).run P w = .ok (.enter f args) w)
    (hf : opnd env x = some (.iface t u)) (hm : ∀ w, (method (P.types.size + Made.depth) t u nm).run P w = .ok (f, rv) w) (hx : opnds env xs = some vs)
    (next : QD P n C D L I Z m r ((d, v) :: env)) : QD P n C D L I Z (true :: m) (⟨some d, .call ⟨.invoke x nm, xs.toArray, ats⟩, ty, ps, af, g⟩ :: r) env :=
  QD.callW hd hg (fun a W he => run_invoke hc he hf hm hx) hs.keeps next
end
end Go.V
namespace Go.V
open Go.RowKit Go.ChangeShapes
set_option linter.unusedVariables false
set_option linter.unusedSimpArgs false
theorem witness_laid {H : Type} {enc : TypeId × Value → H} {C : Checked} {os : Os} {f : FuncId} {fn : Func} {s : OpenSpec} {conds : List PathCond} {apart : Bool} {laid : List (String × DataW Unit)} (modest : Bool) (args : Array Value)
    (hsh : (World.laidAll C.prog os laid |>.forCall (fun _ _ => 0) ⟨#[], args, []⟩).Shaped C.prog)
    (hok : Input.okWideB C.prog ((World.laidAll C.prog os laid).forCall (fun _ _ => 0) ⟨#[], args, []⟩) f ⟨#[], args, []⟩ = true)
    (hrow : s.preRow enc C.prog fn conds apart laid ((World.laidAll C.prog os laid).forCall (fun _ _ => 0) ⟨#[], args, []⟩).memory args) :
    ∃ (w : World) (tape : Tape) (i : Input), w.os = os ∧ (w.forCall tape i).Shaped C.prog ∧ i.vars = [] ∧ Input.okWide C.prog (w.forCall tape i) .any w.heap.size f i ∧
      s.preRow enc C.prog fn conds apart laid (w.forCall tape i).memory i.args ∧ ({ modest := modest } : Assume).holds C.prog (lone (Frame.enter C.prog f i.args .normal) [] (w.forCall tape i)) :=
  ⟨World.laidAll C.prog os laid, fun _ _ => 0, ⟨#[], args, []⟩, World.laidAll_os _ _ _, hsh, (Input.okWide_of_okWideB (base := 0) hok).1, (Input.okWide_of_okWideB hok).2, hrow, by
    simp only [Assume.holds]
    exact ⟨by simp, by simp, fun _ => Modest.zero, by simp, by simp⟩⟩
end Go.V
namespace Go.V
open Go.Proofs.Tryz
open Go.RowKit
set_option linter.unusedVariables false
set_option linter.unusedSimpArgs false
section
variable {P : Program} {n : Nat} {C : Cx} {k : List Item} {env : Env} {L : Own} {I : Imm} {ops : Array Oper} {i : Nat} {l : List Oper} {S : World → Prop}
variable {ty : TypeId} {ps : String} {af : Array Edge} {g : Option (Nat × Bool)} {d : Nat}
variable {x y : Operand} {t t' : TypeId} {kd kd' : IntKind}
theorem Ev.addK {a b r : Int} (hx : opnd env x = some (.int kd a)) (hy : opnd env y = some (.int kd b)) (hr : kd.wrap (a + b) = r) : Ev P n env (.binOp .add t x y t') (.int kd r) :=
  Ev.of2 hx hy (fun _ => run_eqGuard_int ..) fun W => by subst hr; simp [binOp, Op.intArith]
end
structure Rd (I : Imm) (v : Value) (xs : List UInt8) (db off c : Nat) : Prop where
  eq : v = .slice (some ⟨db, off, none⟩) xs.length c
  cap : xs.length ≤ c
  at' : ∀ i, i < xs.length → At I db (off + ((i : Int)).toNat * 1) [.int .u8 ((xs.getD i 0).toNat : Int)]
theorem Rd.mono {I J : Imm} {v : Value} {xs : List UInt8} {db off c : Nat} (h : Rd I v xs db off c) (hle : Le I J) : Rd J v xs db off c := ⟨h.eq, h.cap, fun i hi => (h.at' i hi).mono hle⟩
theorem Rd.of {I : Imm} {v : Value} {xs : List UInt8} (h : Sl tU8 I v xs) (hne : xs ≠ []) : ∃ db off c, Rd I v xs db off c := by
  obtain ⟨A, c, rfl, hc, hrow⟩ := h
  rcases hrow with rfl | ⟨b, off, rfl, hrow⟩
  · exact absurd rfl hne
  · refine ⟨b, off, c, rfl, hc, fun i hi => ?_⟩
    obtain ⟨cs, hr, hA⟩ := hrow i _ (List.getElem?_eq_getElem hi)
    obtain rfl : cs = _ := hr
    rw [List.getD_eq_getElem?_getD, List.getElem?_eq_getElem hi]
    exact hA
theorem Rd.sl {I : Imm} {v : Value} {xs : List UInt8} {db off c : Nat} (h : Rd I v xs db off c) : Sl tU8 I v xs := by
  refine ⟨_, c, h.eq, h.cap, .inr ⟨db, off, rfl, fun i x hx => ?_⟩⟩
  obtain ⟨hi, rfl⟩ := List.getElem?_eq_some_iff.1 hx
  refine ⟨_, rfl, ?_⟩
  have := h.at' i hi
  rw [List.getD_eq_getElem?_getD, List.getElem?_eq_getElem hi] at this
  exact this
theorem Rd.cut {I : Imm} {v : Value} {xs : List UInt8} {db off c : Nat} (h : Rd I v xs db off c) {p q : Nat} (hpq : p ≤ q) (hq : q ≤ xs.length) (hpc : p < c) :
    Rd I (.slice (if c = p then some ⟨db, off, none⟩ else (some (⟨db, off, none⟩ : Addr)).map (·.add (p * 1))) (q - p) (c - p)) ((xs.take q).drop p) db (off + p) (c - p) := by
  have hc := h.cap
  have hl : ((xs.take q).drop p).length = q - p := by simp; omega
  refine ⟨?_, by rw [hl]; omega, fun i hi => ?_⟩
  · rw [if_neg (by omega), hl]; simp [Addr.add]
  · rw [hl] at hi
    have := h.at' (p + i) (by omega)
    have e : ((xs.take q).drop p).getD i 0 = xs.getD (p + i) 0 := by
      rw [List.getD_eq_getElem?_getD, List.getD_eq_getElem?_getD, List.getElem?_drop, List.getElem?_take_of_lt (by omega)]
    rw [e]
    have e2 : off + p + ((i : Nat) : Int).toNat * 1 = off + (((p + i : Nat) : Int)).toNat * 1 := by omega
    rw [e2]; exact this
theorem dc {p : Prop} (h : p := by decide) : p := h
theorem om {p : Prop} (h : p := by first | omega | (simp only [List.length_cons, List.length_nil] ; omega) | (simp; omega)) : p := h
section
variable {n : Nat} {C : Cx} {env : Env} {L : Own} {I : Imm} {D : List (Option Nat)} {Z : Env → Prop} {m : List Bool} {r : List Oper} {ty : TypeId} {ps : String} {af : Array Edge} {g : Option (Nat × Bool)} {d : Nat}
theorem q1 {op : Op} {v : Value} (hd : d < n) (hg : wantD env D g = some true) (h : evalOp T env op = some v) (next : QD prog n C D L I Z m r ((d, v) :: env)) : QD prog n C D L I Z (true :: m) (⟨some d, op, ty, ps, af, g⟩ :: r) env :=
  QD.ev T hd hg h next
theorem qf {op : Op} {p : Prop} {i : Decidable p} (h : Ev prog n env op (.bool (decide p))) (hp : ¬p) (hd : d < n) (hg : wantD env D g = some true) (next : QD prog n C D L I Z m r ((d, .bool false) :: env)) : QD prog n C D L I Z (true :: m) (⟨some d, op, ty, ps, af, g⟩ :: r) env :=
  QD.e (h.as (congrArg Value.bool (decide_eq_false hp))) hd hg next
theorem qt {op : Op} {p : Prop} {i : Decidable p} (h : Ev prog n env op (.bool (decide p))) (hp : p) (hd : d < n) (hg : wantD env D g = some true) (next : QD prog n C D L I Z m r ((d, .bool true) :: env)) : QD prog n C D L I Z (true :: m) (⟨some d, op, ty, ps, af, g⟩ :: r) env :=
  QD.e (h.as (congrArg Value.bool (decide_eq_true hp))) hd hg next
end
end Go.V
namespace Go.V
open Go.RowKit
set_option linter.unusedVariables false
set_option linter.unusedSimpArgs false
section
variable {P : Program} {n : Nat} {C : Cx} {k : List Item} {env : Env} {L : Own} {I : Imm} {ops : Array Oper} {i : Nat} {l : List Oper} {S : World → Prop}
variable {ty : TypeId} {ps : String} {af : Array Edge} {g : Option (Nat × Bool)} {d : Nat}
theorem Run.retCTK (T : Tab P) (j : Nat) {fn : Func} {t u b m : Nat} {x : Value} {vs cs : List Value} {rt t' : TypeId} {todo : List Item} {L' : Own} (hfn : P.funcs[C.f]? = some fn) (hres : fn.results = #[.cell t rt, .tmp u]) (hp : look env t = some (.pointer (some ⟨b, 0, none⟩)))
    (hL : L[j]? = some (b, blk cs t')) (ha : T.agg rt = some true) (hs : T.size rt = some m) (hv : (cs.drop 0).take m = vs) (hm : vs.length = m) (hu : look env u = some x) (hsub : L'.Sublist L) (h : C.R (.tuple #[.agg vs.toArray, x]) I L') : Run P n C (.code .ret :: todo) env L I := by
  intro bb a cs' W hb hk he hi
  have hr : (results fn a.tmps).run P W = .ok (.tuple #[.agg vs.toArray, x]) W := by
    have h1 := run_cellN T hi hL ha hs hv hm
    have hp' : a.tmps.getD t undef = .pointer (some ⟨b, 0, none⟩) := he.getD hp
    rw [results_cell_tmp hres, hp', he.getD hu]
    simp [asAddr, h1]
  exact ⟨.returned (.tuple #[.agg vs.toArray, x]), W, _, ⟨_, I, L', rfl, h, hi.weakenL hsub⟩, Steps.one step_ret, hb, rfl, he.defers, hk, fn, by simpa [Frame.at, hb] using hfn, hr⟩
end
end Go.V
namespace Go.V
open Go.RowKit
set_option linter.unusedVariables false
set_option linter.unusedSimpArgs false
section
variable {P : Program} {md : Region.Mode} {ops : Array Oper} {Q : Exit → Act → World → Prop} {S : Array Bool → World → Prop} {T : World → Prop}
def wpAnyL (P : Program) (md : Region.Mode) (ops : Array Oper) (Q : Exit → Act → World → Prop) (S : Array Bool → World → Prop) : Nat → Array Bool → Act → World → Prop
  | 0, done, a, w => Region.ready md ops done = [] ∧ Q .normal a w
  | n + 1, done, a, w => (Region.ready md ops done = [] → Q .normal a w) ∧
    ∀ i ∈ Region.ready md ops done, wpOp P ops Q i (fun a' w' => S (done.setIfInBounds i true) w' ∧ wpAnyL P md ops Q S n (done.setIfInBounds i true) a' w') a w
theorem wpAnyL_first {i : Nat} {oi : Oper} {v : Value} (hi : ops[i]? = some oi) (hsel : ∀ (j : Nat) (o : Oper) cs b, ops[j]? = some o → o.op ≠ .select cs b)
    (hQ : ∀ c a w, Q (.panic c) (a.put oi.dst v) w → Q (.panic c) a w) (hS : ∀ l w, S l w ↔ S (l.setIfInBounds i true) w) (hT : ∀ l w, Cl md ops l → l.getD i true = false → S l w → T w) :
    ∀ (n : Nat) (done : Array Bool) (a : Act) (w : World), Cl md ops done →
      (∀ j oj, ops[j]? = some oj → j ≠ i → done.getD j true = false → (∀ e ∈ oj.after, Region.binds md e = true → e.on ≠ i) → oi.apart ops oj = true) →
      i ∈ Region.ready md ops done → YieldsIf P ops T oi v a → S done w →
      wpAnyL P md ops Q S n (done.setIfInBounds i true) (a.put oi.dst v) w → wpAnyL P md ops Q S (n + 1) done a w := by
  intro n
  induction n with
  | zero =>
    intro done a w inv _ hr hy hSw H
    refine ⟨fun h => (by rw [h] at hr; cases hr), fun j hj => ?_⟩
    by_cases hji : j = i
    · subst hji; exact hy.wpOp hi (hT done w inv (mem_ready.1 hr).1 hSw) ⟨(hS _ _).1 hSw, H⟩
    · have := ready_mono hj hji
      rw [H.1] at this
      cases this
  | succ n ih =>
    intro done a w inv hfree hr hy hSw H
    refine ⟨fun h => (by rw [h] at hr; cases hr), fun j hj => ?_⟩
    by_cases hji : j = i
    · subst hji; exact hy.wpOp hi (hT done w inv (mem_ready.1 hr).1 hSw) ⟨(hS _ _).1 hSw, H⟩
    · have h1 := H.2 j (ready_mono hj hji)
      obtain ⟨hjun, oj, hoj, hall⟩ := mem_ready.1 hj
      have hnot : ∀ e ∈ oj.after, Region.binds md e = true → e.on ≠ i := fun e he hb heq => by
        have h1 := hall e he hb
        rw [heq, getD_both (mem_ready.1 hr).1] at h1
        cases h1
      have h2 := wpOp_putIf hoj (hfree j oj hoj hji hjun hnot) (fun cs b => hsel i oi cs b hi) (fun cs b => hsel j oj cs b hoj) hQ hy h1
      have hfree' : ∀ k ok, ops[k]? = some ok → k ≠ i → (done.setIfInBounds j true).getD k true = false →
          (∀ e ∈ ok.after, Region.binds md e = true → e.on ≠ i) → oi.apart ops ok = true := fun k ok hk hki hun hno => by
        refine hfree k ok hk hki ?_ hno
        by_cases hjk : j = k
        · subst hjk; exact hjun
        · rw [getD_set_ne true hjk] at hun; exact hun
      refine wpOp_mono (fun a' w' h3 => ?_) h2
      have h4 : S (done.setIfInBounds j true) w' := (hS _ _).2 (by rw [Array.setIfInBounds_comm _ _ hji]; exact h3.2.1)
      refine ⟨h4, ih (done.setIfInBounds j true) a' w' (inv.set hj) hfree' (ready_mono hr (Ne.symm hji)) h3.1 h4 ?_⟩
      rw [Array.setIfInBounds_comm _ _ hji]
      exact h3.2.2
theorem wpAnyL_done {done : Array Bool} {a : Act} {w : World} (hr : Region.ready md ops done = []) (h : Q .normal a w) : ∀ n, wpAnyL P md ops Q S n done a w
  | 0 => ⟨hr, h⟩
  | _ + 1 => ⟨fun _ => h, by rw [hr]; simp⟩
end
def SL (late : List Nat) (S1 S0 : World → Prop) (l : Array Bool) (w : World) : Prop := S1 w ∧ ((∀ j ∈ late, l.getD j false = false) → S0 w)
theorem SL.set {late : List Nat} {S1 S0 : World → Prop} {i : Nat} (hi : i ∉ late) (l : Array Bool) (w : World) : SL late S1 S0 l w ↔ SL late S1 S0 (l.setIfInBounds i true) w := by
  have e : ∀ j ∈ late, (l.setIfInBounds i true).getD j false = l.getD j false := fun j hj => getD_set_ne false (fun h => hi (h ▸ hj))
  unfold SL
  constructor
  · intro h; exact ⟨h.1, fun h2 => h.2 fun j hj => by rw [← e j hj]; exact h2 j hj⟩
  · intro h; exact ⟨h.1, fun h2 => h.2 fun j hj => by rw [e j hj]; exact h2 j hj⟩
def lateOk (ops : Array Oper) (late : List Nat) (i : Nat) : Bool := late.all fun j => match ops[j]? with
  | none => false
  | some o => o.after.toList.any fun e => Region.binds .any e && Nat.beq e.on i
theorem SL.at {ops : Array Oper} {late : List Nat} {S1 S0 : World → Prop} {i : Nat} (h : lateOk ops late i = true) (l : Array Bool) (w : World) (hc : Cl .any ops l) (hu : l.getD i true = false) (hS : SL late S1 S0 l w) : S0 w := by
  refine hS.2 fun j hj => ?_
  cases hl : l.getD j false with
  | false => rfl
  | true =>
    exfalso
    have := List.all_eq_true.1 h j hj
    split at this
    · cases this
    · rename_i o ho
      obtain ⟨e, he, hb⟩ := List.any_eq_true.1 this
      simp only [Bool.and_eq_true] at hb
      have h2 := hc.closed j o ho hl e (by simpa using he) hb.1
      rw [Nat.eq_of_beq_eq_true hb.2, getD_both hu] at h2
      cases h2
section
variable {P : Program} {n : Nat} {C : Cx} {k : List Item} {env : Env} {L : Own} {I : Imm} {ops : Array Oper} {late : List Nat} {S1 S : World → Prop}
variable {ty : TypeId} {ps : String} {af : Array Edge} {g : Option (Nat × Bool)} {d : Nat}
def RAnyL (P : Program) (n : Nat) (C : Cx) (ops : Array Oper) (late : List Nat) (S1 S : World → Prop) (k : List Item) (fuel : Nat) (listed : List Bool) (env : Env) (L : Own) (I : Imm) : Prop :=
  ∀ a W, EnvOk n env a → Inv C.w0 C.I0 C.L0 I L W → Cl .any ops listed.toArray → SL late S1 S listed.toArray W → wpAnyL P .any ops (Qk P n C k) (SL late S1 S) fuel listed.toArray a W
theorem RAnyL.done {listed : List Bool} (fuel : Nat) (hr : Region.ready .any ops listed.toArray = []) (h : Run P n C k env L I) : RAnyL P n C ops late S1 S k fuel listed env L I :=
  fun a W he hi _ _ => wpAnyL_done hr ⟨env, L, I, he, hi, h⟩ fuel
theorem RAnyL.perm {listed : List Bool} {fuel : Nat} {L' : Own} (hp : L.Perm L') (h : RAnyL P n C ops late S1 S k fuel listed env L' I) : RAnyL P n C ops late S1 S k fuel listed env L I := fun a W he hi hc hs => h a W he (hi.perm hp) hc hs
theorem RAnyL.dropL {listed : List Bool} {fuel : Nat} {L' : Own} (hp : L'.Sublist L) (h : RAnyL P n C ops late S1 S k fuel listed env L' I) : RAnyL P n C ops late S1 S k fuel listed env L I := fun a W he hi hc hs => h a W he (hi.weakenL hp) hc hs
theorem RAnyL.tk {listed : List Bool} {fuel : Nat} (j : Nat) {d : Nat} {op : Op} {v : Value} (listed' : List Bool) (hi : ops[j]? = some ⟨some d, op, ty, ps, af, g⟩) (ok : tkOk ops listed j listed' = true) (hd : d < n) (hlate : late.contains j = false) {T : World → Prop} (hT : (∀ W, S1 W → T W) ∨ (lateOk ops late j = true ∧ ∀ W, S W → T W)) (hy : Yld P n env ops T ⟨some d, op, ty, ps, af, g⟩ v)
    (h : RAnyL P n C ops late S1 S k fuel listed' ((d, v) :: env) L I) : RAnyL P n C ops late S1 S k (fuel + 1) listed env L I := by
  obtain ⟨h1, h2, h3, h4⟩ := tk_spec ok
  intro a W he hinv hc hs
  have hni : j ∉ late := fun hm => by
    have : late.contains j = true := List.contains_iff_mem.2 hm
    rw [this] at hlate; cases hlate
  have hr : j ∈ Region.ready .any ops listed.toArray := by simpa using h3
  refine wpAnyL_first (T := T) (v := v) hi (Region.noSelect_spec h1) (by intro c a w h; exact h.elim) (SL.set hni) (fun l w hcl hu hS => ?_) fuel listed.toArray a W hc (Region.free_spec hi h2) hr ?_ hs ?_
  · rcases hT with hT | ⟨hT, hST⟩
    · exact hT w hS.1
    · exact hST w (SL.at hT l w hcl hu hS)
  · rcases hy with ⟨hw, hv⟩ | ⟨hw, hv⟩
    · exact .inl ⟨want_spec he hw, fun w hSw => hv a w he hSw⟩
    · exact .inr ⟨want_spec he hw, hv⟩
  · rw [h4]
    exact h _ W (he.put (dOk hd)) hinv (by rw [← h4]; exact hc.set hr) (by rw [← h4]; exact (SL.set hni _ _).1 hs)
theorem RAnyL.all {listed : List Bool} {fuel : Nat} (rs : List Nat) (hr : Region.ready .any ops listed.toArray = rs) (hne : rs ≠ [])
    (h : ∀ j ∈ rs, ∃ o, ops[j]? = some o ∧ want env ops o.guard = some true ∧ (∀ t, o.dst = some t → t < n) ∧
      Eff P n C env L I o fun v L1 I1 => ((∀ W, Inv C.w0 C.I0 C.L0 I1 L1 W → S1 W) ∧ (late.contains j = true ∨ ∀ W, Inv C.w0 C.I0 C.L0 I1 L1 W → S W)) ∧ ∃ listed', listed.toArray.setIfInBounds j true = listed'.toArray ∧ RAnyL P n C ops late S1 S k fuel listed' (V.put env o.dst v) L1 I1) :
    RAnyL P n C ops late S1 S k (fuel + 1) listed env L I := by
  intro a W he hi hc hs
  refine ⟨fun h0 => absurd (hr ▸ h0) hne, ?_⟩
  rw [hr]
  intro j hj
  obtain ⟨o, ho, hw, hd, hE⟩ := h j hj
  have hjr : j ∈ Region.ready .any ops listed.toArray := hr ▸ hj
  have hsz : j < listed.toArray.size := by rw [hc.size]; exact (Array.getElem?_eq_some_iff.1 ho).1
  have key : ∀ v W1 L1 I1, Inv C.w0 C.I0 C.L0 I1 L1 W1 → ((∀ W, Inv C.w0 C.I0 C.L0 I1 L1 W → S1 W) ∧ (late.contains j = true ∨ ∀ W, Inv C.w0 C.I0 C.L0 I1 L1 W → S W)) → (∃ listed', listed.toArray.setIfInBounds j true = listed'.toArray ∧ RAnyL P n C ops late S1 S k fuel listed' (V.put env o.dst v) L1 I1) →
      SL late S1 S (listed.toArray.setIfInBounds j true) W1 ∧ wpAnyL P .any ops (Qk P n C k) (SL late S1 S) fuel (listed.toArray.setIfInBounds j true) (a.put o.dst v) W1 := by
    intro v W1 L1 I1 hi1 hS ⟨listed', hl, hR⟩
    have hSL : SL late S1 S (listed.toArray.setIfInBounds j true) W1 := by
      refine ⟨hS.1 W1 hi1, ?_⟩
      rcases hS.2 with hS | hS
      · intro hno
        have := hno j (List.contains_iff_mem.1 hS)
        simp only [Array.getD_eq_getD_getElem?, Array.getElem?_setIfInBounds_self_of_lt hsz, Option.getD_some] at this
        cases this
      · exact fun _ => hS W1 hi1
    exact ⟨hSL, by rw [hl]; exact hR _ W1 (he.put hd) hi1 (by rw [← hl]; exact hc.set hjr) (by rw [← hl]; exact hSL)⟩
  unfold wpOp
  simp only [ho, want_spec he hw, if_true]
  refine .inl ?_
  unfold Oper.wp
  rcases hE a W he hi with ⟨v, W1, L1, I1, hr, hi1, hS, hR⟩ | ⟨f, args, hr, hcall⟩
  · have hfin := key v W1 L1 I1 hi1 hS hR
    rcases hr with hr | ⟨hr, rfl⟩
    · rw [hr]; exact hfin
    · rw [hr]; exact hfin
  · rw [hr]
    refine hcall.mono ?_
    rintro e W1 ⟨v, L1, I1, rfl, hi1, hS, hR⟩
    exact key v W1 L1 I1 hi1 hS hR
theorem RAnyL.on {listed : List Bool} {fuel : Nat} (j : Nat) {d : Nat} {op : Op} (listed' : List Bool) (hi : ops[j]? = some ⟨some d, op, ty, ps, af, g⟩) (ok : oneOk ops listed j listed' = true) (hw : want env ops g = some true) (hd : d < n)
    (h : Eff P n C env L I ⟨some d, op, ty, ps, af, g⟩ fun v L1 I1 => ((∀ W, Inv C.w0 C.I0 C.L0 I1 L1 W → S1 W) ∧ (late.contains j = true ∨ ∀ W, Inv C.w0 C.I0 C.L0 I1 L1 W → S W)) ∧ RAnyL P n C ops late S1 S k fuel listed' ((d, v) :: env) L1 I1) : RAnyL P n C ops late S1 S k (fuel + 1) listed env L I := by
  obtain ⟨hr, hl⟩ := one_spec' ok
  refine RAnyL.all [j] hr (by simp) fun j' hj => ?_
  obtain rfl : j' = j := by simpa using hj
  refine ⟨_, hi, hw, dOk hd, fun a W he hin => ?_⟩
  rcases h a W he hin with ⟨v, W1, L1, I1, h1, h2, h3, h4⟩ | ⟨f, args, h1, h2⟩
  · exact .inl ⟨v, W1, L1, I1, h1, h2, h3, listed', hl, h4⟩
  · exact .inr ⟨f, args, h1, h2.mono fun e W' ⟨v, L1, I1, q1, q2, q3, q4⟩ => ⟨v, L1, I1, q1, q2, q3, listed', hl, q4⟩⟩
theorem RAnyL.os {listed : List Bool} {fuel : Nat} (j : Nat) {op : Op} (listed' : List Bool) (hi : ops[j]? = some ⟨none, op, ty, ps, af, g⟩) (ok : oneOk ops listed j listed' = true) (hw : want env ops g = some true)
    (h : Eff P n C env L I ⟨none, op, ty, ps, af, g⟩ fun v L1 I1 => ((∀ W, Inv C.w0 C.I0 C.L0 I1 L1 W → S1 W) ∧ (late.contains j = true ∨ ∀ W, Inv C.w0 C.I0 C.L0 I1 L1 W → S W)) ∧ RAnyL P n C ops late S1 S k fuel listed' env L1 I1) : RAnyL P n C ops late S1 S k (fuel + 1) listed env L I := by
  obtain ⟨hr, hl⟩ := one_spec' ok
  refine RAnyL.all [j] hr (by simp) fun j' hj => ?_
  obtain rfl : j' = j := by simpa using hj
  refine ⟨_, hi, hw, dNo, fun a W he hin => ?_⟩
  rcases h a W he hin with ⟨v, W1, L1, I1, h1, h2, h3, h4⟩ | ⟨f, args, h1, h2⟩
  · exact .inl ⟨v, W1, L1, I1, h1, h2, h3, listed', hl, h4⟩
  · exact .inr ⟨f, args, h1, h2.mono fun e W' ⟨v, L1, I1, q1, q2, q3, q4⟩ => ⟨v, L1, I1, q1, q2, q3, listed', hl, q4⟩⟩
theorem RAnyL.two {listed : List Bool} {fuel : Nat} (i j : Nat) {d1 d2 : Nat} {op1 op2 : Op} {ty1 ty2 : TypeId} {ps1 ps2 : String} {af1 af2 : Array Edge} {g1 g2 : Option (Nat × Bool)} (l1 l2 : List Bool)
    (h1 : ops[i]? = some ⟨some d1, op1, ty1, ps1, af1, g1⟩) (h2 : ops[j]? = some ⟨some d2, op2, ty2, ps2, af2, g2⟩) (ok : twoOk ops listed i j l1 l2 = true) (w1 : want env ops g1 = some true) (w2 : want env ops g2 = some true) (hd1 : d1 < n) (hd2 : d2 < n)
    (e1 : Eff P n C env L I ⟨some d1, op1, ty1, ps1, af1, g1⟩ fun v L1 I1 => ((∀ W, Inv C.w0 C.I0 C.L0 I1 L1 W → S1 W) ∧ (late.contains i = true ∨ ∀ W, Inv C.w0 C.I0 C.L0 I1 L1 W → S W)) ∧ RAnyL P n C ops late S1 S k fuel l1 ((d1, v) :: env) L1 I1)
    (e2 : Eff P n C env L I ⟨some d2, op2, ty2, ps2, af2, g2⟩ fun v L1 I1 => ((∀ W, Inv C.w0 C.I0 C.L0 I1 L1 W → S1 W) ∧ (late.contains j = true ∨ ∀ W, Inv C.w0 C.I0 C.L0 I1 L1 W → S W)) ∧ RAnyL P n C ops late S1 S k fuel l2 ((d2, v) :: env) L1 I1) : RAnyL P n C ops late S1 S k (fuel + 1) listed env L I := by
  simp only [twoOk, Bool.and_eq_true, beq_iff_eq] at ok
  obtain ⟨⟨hr, hs1⟩, hs2⟩ := ok
  refine RAnyL.all [i, j] hr (by simp) fun q hq => ?_
  have hq' : q = i ∨ q = j := by simpa using hq
  rcases hq' with rfl | rfl
  · refine ⟨_, h1, w1, dOk hd1, fun a W he hin => ?_⟩
    rcases e1 a W he hin with ⟨v, W1, L1, I1, q1, q2, q3, q4⟩ | ⟨f, args, q1, q2⟩
    · exact .inl ⟨v, W1, L1, I1, q1, q2, q3, l1, by rw [← hs1]; simp, q4⟩
    · exact .inr ⟨f, args, q1, q2.mono fun e W' ⟨v, L1, I1, p1, p2, p3, p4⟩ => ⟨v, L1, I1, p1, p2, p3, l1, by rw [← hs1]; simp, p4⟩⟩
  · refine ⟨_, h2, w2, dOk hd2, fun a W he hin => ?_⟩
    rcases e2 a W he hin with ⟨v, W1, L1, I1, q1, q2, q3, q4⟩ | ⟨f, args, q1, q2⟩
    · exact .inl ⟨v, W1, L1, I1, q1, q2, q3, l2, by rw [← hs2]; simp, q4⟩
    · exact .inr ⟨f, args, q1, q2.mono fun e W' ⟨v, L1, I1, p1, p2, p3, p4⟩ => ⟨v, L1, I1, p1, p2, p3, l2, by rw [← hs2]; simp, p4⟩⟩
end
end Go.V
namespace Go.V
open Go.RowKit
set_option linter.unusedVariables false
set_option linter.unusedSimpArgs false
section
variable {P : Program} {n : Nat} {C : Cx} {k : List Item} {env : Env} {L : Own} {I : Imm} {ops : Array Oper} {i : Nat} {l : List Oper} {S : World → Prop}
variable {ty : TypeId} {ps : String} {af : Array Edge} {g : Option (Nat × Bool)} {d : Nat}
def First (P : Program) (size q : Nat) (v : Value) (news : List Value) (W : World) : Prop := (Builtin.firstCells size q v).run P W = .ok news.toArray W
theorem First.sl {α : Type} {t : Ty α} {v : Value} {xs : List α} {q : Nat} (h : Sl t I v xs) (hq : q ≤ xs.length) : ∃ news, Cells t I news (xs.take q) ∧ ∀ W w0 I0 L0 L, Inv w0 I0 L0 I L W → First P t.size q v news W := by
  obtain ⟨A, c, rfl, hc, hrow⟩ := h
  rcases hrow with rfl | ⟨b, off, rfl, hrow⟩
  · simp at hq
    subst hq
    refine ⟨[], Cells.nil t I, fun W w0 I0 L0 L hi => ?_⟩
    cases A with
    | none => rfl
    | some a =>
      have := run_loadCells_list (P := P) W a [] (fun j v h => by simp at h)
      unfold First
      simp only [Builtin.firstCells, Nat.zero_mul]
      exact this
  · have hr2 : RowAt t I b off (xs.take q) := by
      have := hrow.cut 0 q
      simpa using this
    obtain ⟨news, hC, hA⟩ := hr2.cells
    refine ⟨news, hC, fun W w0 I0 L0 L hi => ?_⟩
    have hl : news.length = q * t.size := by rw [hC.flat_len, List.length_take, Nat.min_eq_left hq]
    have := run_loadCells_list (P := P) W ⟨b, off, none⟩ news (fun j v hv => by
      rw [add_off]
      rcases hA with h0 | hA
      · have : q = 0 := by
          have := congrArg List.length h0
          rw [List.length_take, Nat.min_eq_left hq] at this; simpa using this
        rw [this, Nat.zero_mul] at hl
        rw [List.eq_nil_of_length_eq_zero hl] at hv; simp at hv
      · exact hA.cell hi j v hv)
    unfold First
    simp only [Builtin.firstCells]
    rw [← hl]; exact this
end
end Go.V
