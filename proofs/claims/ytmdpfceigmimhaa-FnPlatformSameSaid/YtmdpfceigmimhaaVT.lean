/-
  Which type stands where in this seat's translation: by its own numbers. Written by gen_types.py.
-/
import Derived.Test.YtmdpfceigmimhaaV5
import Derived.Test.YtmdpfceigmimhaaProg
import Derived.KernelRfl
namespace Go.V
set_option linter.unusedVariables false
set_option maxRecDepth 100000
noncomputable def undL : List TypeDesc := [Proofs.Try.t0.desc, Proofs.Try.t1.desc, Proofs.Try.t2.desc, Proofs.Try.t3.desc, Proofs.Try.t4.desc, Proofs.Try.t5.desc, Proofs.Try.t5.desc, Proofs.Try.t7.desc, Proofs.Try.t7.desc, Proofs.Try.t9.desc, Proofs.Try.t9.desc, Proofs.Try.t9.desc, Proofs.Try.t12.desc, Proofs.Try.t13.desc, Proofs.Try.t13.desc, Proofs.Try.t15.desc, Proofs.Try.t16.desc, Proofs.Try.t17.desc, Proofs.Try.t18.desc, Proofs.Try.t18.desc, Proofs.Try.t20.desc, Proofs.Try.t21.desc, Proofs.Try.t22.desc, Proofs.Try.t22.desc, Proofs.Try.t24.desc, Proofs.Try.t25.desc, Proofs.Try.t26.desc, Proofs.Try.t27.desc, Proofs.Try.t28.desc, Proofs.Try.t29.desc, Proofs.Try.t30.desc, Proofs.Try.t31.desc, Proofs.Try.t32.desc, Proofs.Try.t33.desc, Proofs.Try.t33.desc, Proofs.Try.t35.desc, Proofs.Try.t36.desc, Proofs.Try.t37.desc, Proofs.Try.t37.desc, Proofs.Try.t39.desc, Proofs.Try.t40.desc, Proofs.Try.t41.desc, Proofs.Try.t42.desc, Proofs.Try.t43.desc, Proofs.Try.t44.desc, Proofs.Try.t45.desc, Proofs.Try.t46.desc, Proofs.Try.t47.desc, Proofs.Try.t48.desc, Proofs.Try.t48.desc, Proofs.Try.t50.desc, Proofs.Try.t50.desc, Proofs.Try.t52.desc, Proofs.Try.t53.desc, Proofs.Try.t53.desc, Proofs.Try.t55.desc, Proofs.Try.t56.desc, Proofs.Try.t57.desc, Proofs.Try.t58.desc, Proofs.Try.t59.desc, Proofs.Try.t60.desc, Proofs.Try.t61.desc, Proofs.Try.t62.desc, Proofs.Try.t63.desc, Proofs.Try.t63.desc, Proofs.Try.t65.desc, Proofs.Try.t66.desc, Proofs.Try.t66.desc, Proofs.Try.t68.desc, Proofs.Try.t68.desc, Proofs.Try.t70.desc, Proofs.Try.t71.desc, Proofs.Try.t71.desc, Proofs.Try.t9.desc, Proofs.Try.t74.desc, Proofs.Try.t75.desc, Proofs.Try.t76.desc, Proofs.Try.t76.desc, Proofs.Try.t78.desc, Proofs.Try.t79.desc, Proofs.Try.t80.desc, Proofs.Try.t81.desc, Proofs.Try.t81.desc, Proofs.Try.t83.desc, Proofs.Try.t84.desc, Proofs.Try.t85.desc, Proofs.Try.t86.desc, Proofs.Try.t87.desc, Proofs.Try.t88.desc, Proofs.Try.t89.desc, Proofs.Try.t89.desc, Proofs.Try.t91.desc, Proofs.Try.t91.desc, Proofs.Try.t93.desc, Proofs.Try.t50.desc, Proofs.Try.t95.desc, Proofs.Try.t96.desc, Proofs.Try.t97.desc, Proofs.Try.t97.desc, Proofs.Try.t99.desc, Proofs.Try.t100.desc, Proofs.Try.t101.desc, Proofs.Try.t102.desc, Proofs.Try.t103.desc, Proofs.Try.t104.desc, Proofs.Try.t105.desc, Proofs.Try.t106.desc, Proofs.Try.t106.desc, Proofs.Try.t108.desc, Proofs.Try.t109.desc, Proofs.Try.t110.desc, Proofs.Try.t111.desc, Proofs.Try.t112.desc, Proofs.Try.t113.desc, Proofs.Try.t114.desc, Proofs.Try.t114.desc, Proofs.Try.t116.desc, Proofs.Try.t117.desc, Proofs.Try.t118.desc, Proofs.Try.t119.desc, Proofs.Try.t120.desc, Proofs.Try.t121.desc, Proofs.Try.t122.desc, Proofs.Try.t123.desc, Proofs.Try.t124.desc, Proofs.Try.t125.desc, Proofs.Try.t126.desc, Proofs.Try.t127.desc, Proofs.Try.t128.desc, Proofs.Try.t129.desc, Proofs.Try.t130.desc, Proofs.Try.t131.desc, Proofs.Try.t131.desc, Proofs.Try.t133.desc, Proofs.Try.t134.desc, Proofs.Try.t135.desc, Proofs.Try.t136.desc, Proofs.Try.t137.desc, Proofs.Try.t138.desc, Proofs.Try.t139.desc, Proofs.Try.t140.desc, Proofs.Try.t141.desc, Proofs.Try.t142.desc, Proofs.Try.t143.desc, Proofs.Try.t144.desc, Proofs.Try.t145.desc, Proofs.Try.t146.desc, Proofs.Try.t3.desc, Proofs.Try.t148.desc, Proofs.Try.t149.desc, Proofs.Try.t150.desc, Proofs.Try.t151.desc, Proofs.Try.t152.desc, Proofs.Try.t153.desc, Proofs.Try.t154.desc, Proofs.Try.t155.desc, Proofs.Try.t156.desc, Proofs.Try.t157.desc, Proofs.Try.t157.desc, Proofs.Try.t159.desc, Proofs.Try.t160.desc, Proofs.Try.t161.desc, Proofs.Try.t162.desc, Proofs.Try.t163.desc, Proofs.Try.t164.desc, Proofs.Try.t165.desc, Proofs.Try.t166.desc, Proofs.Try.t167.desc, Proofs.Try.t167.desc, Proofs.Try.t169.desc, Proofs.Try.t170.desc, Proofs.Try.t170.desc, Proofs.Try.t172.desc, Proofs.Try.t5.desc, Proofs.Try.t5.desc, Proofs.Try.t175.desc, Proofs.Try.t21.desc, Proofs.Try.t21.desc, Proofs.Try.t178.desc, Proofs.Try.t178.desc, Proofs.Try.t180.desc, Proofs.Try.t181.desc, Proofs.Try.t182.desc, Proofs.Try.t183.desc, Proofs.Try.t183.desc]
noncomputable def tiL : List TypeInfo := [Proofs.Try.t0, Proofs.Try.t1, Proofs.Try.t2, Proofs.Try.t3, Proofs.Try.t4, Proofs.Try.t5, Proofs.Try.t6, Proofs.Try.t7, Proofs.Try.t8, Proofs.Try.t9, Proofs.Try.t10, Proofs.Try.t11, Proofs.Try.t12, Proofs.Try.t13, Proofs.Try.t14, Proofs.Try.t15, Proofs.Try.t16, Proofs.Try.t17, Proofs.Try.t18, Proofs.Try.t19, Proofs.Try.t20, Proofs.Try.t21, Proofs.Try.t22, Proofs.Try.t23, Proofs.Try.t24, Proofs.Try.t25, Proofs.Try.t26, Proofs.Try.t27, Proofs.Try.t28, Proofs.Try.t29, Proofs.Try.t30, Proofs.Try.t31, Proofs.Try.t32, Proofs.Try.t33, Proofs.Try.t34, Proofs.Try.t35, Proofs.Try.t36, Proofs.Try.t37, Proofs.Try.t38, Proofs.Try.t39, Proofs.Try.t40, Proofs.Try.t41, Proofs.Try.t42, Proofs.Try.t43, Proofs.Try.t44, Proofs.Try.t45, Proofs.Try.t46, Proofs.Try.t47, Proofs.Try.t48, Proofs.Try.t49, Proofs.Try.t50, Proofs.Try.t51, Proofs.Try.t52, Proofs.Try.t53, Proofs.Try.t54, Proofs.Try.t55, Proofs.Try.t56, Proofs.Try.t57, Proofs.Try.t58, Proofs.Try.t59, Proofs.Try.t60, Proofs.Try.t61, Proofs.Try.t62, Proofs.Try.t63, Proofs.Try.t64, Proofs.Try.t65, Proofs.Try.t66, Proofs.Try.t67, Proofs.Try.t68, Proofs.Try.t69, Proofs.Try.t70, Proofs.Try.t71, Proofs.Try.t72, Proofs.Try.t73, Proofs.Try.t74, Proofs.Try.t75, Proofs.Try.t76, Proofs.Try.t77, Proofs.Try.t78, Proofs.Try.t79, Proofs.Try.t80, Proofs.Try.t81, Proofs.Try.t82, Proofs.Try.t83, Proofs.Try.t84, Proofs.Try.t85, Proofs.Try.t86, Proofs.Try.t87, Proofs.Try.t88, Proofs.Try.t89, Proofs.Try.t90, Proofs.Try.t91, Proofs.Try.t92, Proofs.Try.t93, Proofs.Try.t94, Proofs.Try.t95, Proofs.Try.t96, Proofs.Try.t97, Proofs.Try.t98, Proofs.Try.t99, Proofs.Try.t100, Proofs.Try.t101, Proofs.Try.t102, Proofs.Try.t103, Proofs.Try.t104, Proofs.Try.t105, Proofs.Try.t106, Proofs.Try.t107, Proofs.Try.t108, Proofs.Try.t109, Proofs.Try.t110, Proofs.Try.t111, Proofs.Try.t112, Proofs.Try.t113, Proofs.Try.t114, Proofs.Try.t115, Proofs.Try.t116, Proofs.Try.t117, Proofs.Try.t118, Proofs.Try.t119, Proofs.Try.t120, Proofs.Try.t121, Proofs.Try.t122, Proofs.Try.t123, Proofs.Try.t124, Proofs.Try.t125, Proofs.Try.t126, Proofs.Try.t127, Proofs.Try.t128, Proofs.Try.t129, Proofs.Try.t130, Proofs.Try.t131, Proofs.Try.t132, Proofs.Try.t133, Proofs.Try.t134, Proofs.Try.t135, Proofs.Try.t136, Proofs.Try.t137, Proofs.Try.t138, Proofs.Try.t139, Proofs.Try.t140, Proofs.Try.t141, Proofs.Try.t142, Proofs.Try.t143, Proofs.Try.t144, Proofs.Try.t145, Proofs.Try.t146, Proofs.Try.t147, Proofs.Try.t148, Proofs.Try.t149, Proofs.Try.t150, Proofs.Try.t151, Proofs.Try.t152, Proofs.Try.t153, Proofs.Try.t154, Proofs.Try.t155, Proofs.Try.t156, Proofs.Try.t157, Proofs.Try.t158, Proofs.Try.t159, Proofs.Try.t160, Proofs.Try.t161, Proofs.Try.t162, Proofs.Try.t163, Proofs.Try.t164, Proofs.Try.t165, Proofs.Try.t166, Proofs.Try.t167, Proofs.Try.t168, Proofs.Try.t169, Proofs.Try.t170, Proofs.Try.t171, Proofs.Try.t172, Proofs.Try.t173, Proofs.Try.t174, Proofs.Try.t175, Proofs.Try.t176, Proofs.Try.t177, Proofs.Try.t178, Proofs.Try.t179, Proofs.Try.t180, Proofs.Try.t181, Proofs.Try.t182, Proofs.Try.t183, Proofs.Try.t184]
def AllU (P : Program) : Nat → List TypeDesc → Prop
  | _, [] => True
  | i, u :: r => (∀ w, (underlying i).run P w = .ok u w) ∧ AllU P (i + 1) r
def AllI (P : Program) : Nat → List TypeInfo → Prop
  | _, [] => True
  | i, u :: r => (∀ w, (typeInfo i).run P w = .ok u w) ∧ AllI P (i + 1) r
theorem AllU.get {P : Program} : ∀ {l : List TypeDesc} {i t : Nat} {u : TypeDesc}, AllU P i l → l[t]? = some u → ∀ w, (underlying (i + t)).run P w = .ok u w
  | [], i, t, u, _, h => by simp at h
  | x :: r, i, 0, u, h, e => by simp at e; subst e; exact h.1
  | x :: r, i, t + 1, u, h, e => by
    have := AllU.get h.2 (t := t) (by simpa using e)
    rwa [show i + 1 + t = i + (t + 1) by omega] at this
theorem AllI.get {P : Program} : ∀ {l : List TypeInfo} {i t : Nat} {u : TypeInfo}, AllI P i l → l[t]? = some u → ∀ w, (typeInfo (i + t)).run P w = .ok u w
  | [], i, t, u, _, h => by simp at h
  | x :: r, i, 0, u, h, e => by simp at e; subst e; exact h.1
  | x :: r, i, t + 1, u, h, e => by
    have := AllI.get h.2 (t := t) (by simpa using e)
    rwa [show i + 1 + t = i + (t + 1) by omega] at this
theorem undL_all : AllU Proofs.Try.prog 0 undL := ⟨Proofs.Try.runUnderlying0, Proofs.Try.runUnderlying1, Proofs.Try.runUnderlying2, Proofs.Try.runUnderlying3, Proofs.Try.runUnderlying4, Proofs.Try.runUnderlying5, Proofs.Try.runUnderlying6, Proofs.Try.runUnderlying7, Proofs.Try.runUnderlying8, Proofs.Try.runUnderlying9, Proofs.Try.runUnderlying10, Proofs.Try.runUnderlying11, Proofs.Try.runUnderlying12, Proofs.Try.runUnderlying13, Proofs.Try.runUnderlying14, Proofs.Try.runUnderlying15, Proofs.Try.runUnderlying16, Proofs.Try.runUnderlying17, Proofs.Try.runUnderlying18, Proofs.Try.runUnderlying19, Proofs.Try.runUnderlying20, Proofs.Try.runUnderlying21, Proofs.Try.runUnderlying22, Proofs.Try.runUnderlying23, Proofs.Try.runUnderlying24, Proofs.Try.runUnderlying25, Proofs.Try.runUnderlying26, Proofs.Try.runUnderlying27, Proofs.Try.runUnderlying28, Proofs.Try.runUnderlying29, Proofs.Try.runUnderlying30, Proofs.Try.runUnderlying31, Proofs.Try.runUnderlying32, Proofs.Try.runUnderlying33, Proofs.Try.runUnderlying34, Proofs.Try.runUnderlying35, Proofs.Try.runUnderlying36, Proofs.Try.runUnderlying37, Proofs.Try.runUnderlying38, Proofs.Try.runUnderlying39, Proofs.Try.runUnderlying40, Proofs.Try.runUnderlying41, Proofs.Try.runUnderlying42, Proofs.Try.runUnderlying43, Proofs.Try.runUnderlying44, Proofs.Try.runUnderlying45, Proofs.Try.runUnderlying46, Proofs.Try.runUnderlying47, Proofs.Try.runUnderlying48, Proofs.Try.runUnderlying49, Proofs.Try.runUnderlying50, Proofs.Try.runUnderlying51, Proofs.Try.runUnderlying52, Proofs.Try.runUnderlying53, Proofs.Try.runUnderlying54, Proofs.Try.runUnderlying55, Proofs.Try.runUnderlying56, Proofs.Try.runUnderlying57, Proofs.Try.runUnderlying58, Proofs.Try.runUnderlying59, Proofs.Try.runUnderlying60, Proofs.Try.runUnderlying61, Proofs.Try.runUnderlying62, Proofs.Try.runUnderlying63, Proofs.Try.runUnderlying64, Proofs.Try.runUnderlying65, Proofs.Try.runUnderlying66, Proofs.Try.runUnderlying67, Proofs.Try.runUnderlying68, Proofs.Try.runUnderlying69, Proofs.Try.runUnderlying70, Proofs.Try.runUnderlying71, Proofs.Try.runUnderlying72, Proofs.Try.runUnderlying73, Proofs.Try.runUnderlying74, Proofs.Try.runUnderlying75, Proofs.Try.runUnderlying76, Proofs.Try.runUnderlying77, Proofs.Try.runUnderlying78, Proofs.Try.runUnderlying79, Proofs.Try.runUnderlying80, Proofs.Try.runUnderlying81, Proofs.Try.runUnderlying82, Proofs.Try.runUnderlying83, Proofs.Try.runUnderlying84, Proofs.Try.runUnderlying85, Proofs.Try.runUnderlying86, Proofs.Try.runUnderlying87, Proofs.Try.runUnderlying88, Proofs.Try.runUnderlying89, Proofs.Try.runUnderlying90, Proofs.Try.runUnderlying91, Proofs.Try.runUnderlying92, Proofs.Try.runUnderlying93, Proofs.Try.runUnderlying94, Proofs.Try.runUnderlying95, Proofs.Try.runUnderlying96, Proofs.Try.runUnderlying97, Proofs.Try.runUnderlying98, Proofs.Try.runUnderlying99, Proofs.Try.runUnderlying100, Proofs.Try.runUnderlying101, Proofs.Try.runUnderlying102, Proofs.Try.runUnderlying103, Proofs.Try.runUnderlying104, Proofs.Try.runUnderlying105, Proofs.Try.runUnderlying106, Proofs.Try.runUnderlying107, Proofs.Try.runUnderlying108, Proofs.Try.runUnderlying109, Proofs.Try.runUnderlying110, Proofs.Try.runUnderlying111, Proofs.Try.runUnderlying112, Proofs.Try.runUnderlying113, Proofs.Try.runUnderlying114, Proofs.Try.runUnderlying115, Proofs.Try.runUnderlying116, Proofs.Try.runUnderlying117, Proofs.Try.runUnderlying118, Proofs.Try.runUnderlying119, Proofs.Try.runUnderlying120, Proofs.Try.runUnderlying121, Proofs.Try.runUnderlying122, Proofs.Try.runUnderlying123, Proofs.Try.runUnderlying124, Proofs.Try.runUnderlying125, Proofs.Try.runUnderlying126, Proofs.Try.runUnderlying127, Proofs.Try.runUnderlying128, Proofs.Try.runUnderlying129, Proofs.Try.runUnderlying130, Proofs.Try.runUnderlying131, Proofs.Try.runUnderlying132, Proofs.Try.runUnderlying133, Proofs.Try.runUnderlying134, Proofs.Try.runUnderlying135, Proofs.Try.runUnderlying136, Proofs.Try.runUnderlying137, Proofs.Try.runUnderlying138, Proofs.Try.runUnderlying139, Proofs.Try.runUnderlying140, Proofs.Try.runUnderlying141, Proofs.Try.runUnderlying142, Proofs.Try.runUnderlying143, Proofs.Try.runUnderlying144, Proofs.Try.runUnderlying145, Proofs.Try.runUnderlying146, Proofs.Try.runUnderlying147, Proofs.Try.runUnderlying148, Proofs.Try.runUnderlying149, Proofs.Try.runUnderlying150, Proofs.Try.runUnderlying151, Proofs.Try.runUnderlying152, Proofs.Try.runUnderlying153, Proofs.Try.runUnderlying154, Proofs.Try.runUnderlying155, Proofs.Try.runUnderlying156, Proofs.Try.runUnderlying157, Proofs.Try.runUnderlying158, Proofs.Try.runUnderlying159, Proofs.Try.runUnderlying160, Proofs.Try.runUnderlying161, Proofs.Try.runUnderlying162, Proofs.Try.runUnderlying163, Proofs.Try.runUnderlying164, Proofs.Try.runUnderlying165, Proofs.Try.runUnderlying166, Proofs.Try.runUnderlying167, Proofs.Try.runUnderlying168, Proofs.Try.runUnderlying169, Proofs.Try.runUnderlying170, Proofs.Try.runUnderlying171, Proofs.Try.runUnderlying172, Proofs.Try.runUnderlying173, Proofs.Try.runUnderlying174, Proofs.Try.runUnderlying175, Proofs.Try.runUnderlying176, Proofs.Try.runUnderlying177, Proofs.Try.runUnderlying178, Proofs.Try.runUnderlying179, Proofs.Try.runUnderlying180, Proofs.Try.runUnderlying181, Proofs.Try.runUnderlying182, Proofs.Try.runUnderlying183, Proofs.Try.runUnderlying184, trivial⟩
theorem tiL_all : AllI Proofs.Try.prog 0 tiL := ⟨Proofs.Try.typeInfo0, Proofs.Try.typeInfo1, Proofs.Try.typeInfo2, Proofs.Try.typeInfo3, Proofs.Try.typeInfo4, Proofs.Try.typeInfo5, Proofs.Try.typeInfo6, Proofs.Try.typeInfo7, Proofs.Try.typeInfo8, Proofs.Try.typeInfo9, Proofs.Try.typeInfo10, Proofs.Try.typeInfo11, Proofs.Try.typeInfo12, Proofs.Try.typeInfo13, Proofs.Try.typeInfo14, Proofs.Try.typeInfo15, Proofs.Try.typeInfo16, Proofs.Try.typeInfo17, Proofs.Try.typeInfo18, Proofs.Try.typeInfo19, Proofs.Try.typeInfo20, Proofs.Try.typeInfo21, Proofs.Try.typeInfo22, Proofs.Try.typeInfo23, Proofs.Try.typeInfo24, Proofs.Try.typeInfo25, Proofs.Try.typeInfo26, Proofs.Try.typeInfo27, Proofs.Try.typeInfo28, Proofs.Try.typeInfo29, Proofs.Try.typeInfo30, Proofs.Try.typeInfo31, Proofs.Try.typeInfo32, Proofs.Try.typeInfo33, Proofs.Try.typeInfo34, Proofs.Try.typeInfo35, Proofs.Try.typeInfo36, Proofs.Try.typeInfo37, Proofs.Try.typeInfo38, Proofs.Try.typeInfo39, Proofs.Try.typeInfo40, Proofs.Try.typeInfo41, Proofs.Try.typeInfo42, Proofs.Try.typeInfo43, Proofs.Try.typeInfo44, Proofs.Try.typeInfo45, Proofs.Try.typeInfo46, Proofs.Try.typeInfo47, Proofs.Try.typeInfo48, Proofs.Try.typeInfo49, Proofs.Try.typeInfo50, Proofs.Try.typeInfo51, Proofs.Try.typeInfo52, Proofs.Try.typeInfo53, Proofs.Try.typeInfo54, Proofs.Try.typeInfo55, Proofs.Try.typeInfo56, Proofs.Try.typeInfo57, Proofs.Try.typeInfo58, Proofs.Try.typeInfo59, Proofs.Try.typeInfo60, Proofs.Try.typeInfo61, Proofs.Try.typeInfo62, Proofs.Try.typeInfo63, Proofs.Try.typeInfo64, Proofs.Try.typeInfo65, Proofs.Try.typeInfo66, Proofs.Try.typeInfo67, Proofs.Try.typeInfo68, Proofs.Try.typeInfo69, Proofs.Try.typeInfo70, Proofs.Try.typeInfo71, Proofs.Try.typeInfo72, Proofs.Try.typeInfo73, Proofs.Try.typeInfo74, Proofs.Try.typeInfo75, Proofs.Try.typeInfo76, Proofs.Try.typeInfo77, Proofs.Try.typeInfo78, Proofs.Try.typeInfo79, Proofs.Try.typeInfo80, Proofs.Try.typeInfo81, Proofs.Try.typeInfo82, Proofs.Try.typeInfo83, Proofs.Try.typeInfo84, Proofs.Try.typeInfo85, Proofs.Try.typeInfo86, Proofs.Try.typeInfo87, Proofs.Try.typeInfo88, Proofs.Try.typeInfo89, Proofs.Try.typeInfo90, Proofs.Try.typeInfo91, Proofs.Try.typeInfo92, Proofs.Try.typeInfo93, Proofs.Try.typeInfo94, Proofs.Try.typeInfo95, Proofs.Try.typeInfo96, Proofs.Try.typeInfo97, Proofs.Try.typeInfo98, Proofs.Try.typeInfo99, Proofs.Try.typeInfo100, Proofs.Try.typeInfo101, Proofs.Try.typeInfo102, Proofs.Try.typeInfo103, Proofs.Try.typeInfo104, Proofs.Try.typeInfo105, Proofs.Try.typeInfo106, Proofs.Try.typeInfo107, Proofs.Try.typeInfo108, Proofs.Try.typeInfo109, Proofs.Try.typeInfo110, Proofs.Try.typeInfo111, Proofs.Try.typeInfo112, Proofs.Try.typeInfo113, Proofs.Try.typeInfo114, Proofs.Try.typeInfo115, Proofs.Try.typeInfo116, Proofs.Try.typeInfo117, Proofs.Try.typeInfo118, Proofs.Try.typeInfo119, Proofs.Try.typeInfo120, Proofs.Try.typeInfo121, Proofs.Try.typeInfo122, Proofs.Try.typeInfo123, Proofs.Try.typeInfo124, Proofs.Try.typeInfo125, Proofs.Try.typeInfo126, Proofs.Try.typeInfo127, Proofs.Try.typeInfo128, Proofs.Try.typeInfo129, Proofs.Try.typeInfo130, Proofs.Try.typeInfo131, Proofs.Try.typeInfo132, Proofs.Try.typeInfo133, Proofs.Try.typeInfo134, Proofs.Try.typeInfo135, Proofs.Try.typeInfo136, Proofs.Try.typeInfo137, Proofs.Try.typeInfo138, Proofs.Try.typeInfo139, Proofs.Try.typeInfo140, Proofs.Try.typeInfo141, Proofs.Try.typeInfo142, Proofs.Try.typeInfo143, Proofs.Try.typeInfo144, Proofs.Try.typeInfo145, Proofs.Try.typeInfo146, Proofs.Try.typeInfo147, Proofs.Try.typeInfo148, Proofs.Try.typeInfo149, Proofs.Try.typeInfo150, Proofs.Try.typeInfo151, Proofs.Try.typeInfo152, Proofs.Try.typeInfo153, Proofs.Try.typeInfo154, Proofs.Try.typeInfo155, Proofs.Try.typeInfo156, Proofs.Try.typeInfo157, Proofs.Try.typeInfo158, Proofs.Try.typeInfo159, Proofs.Try.typeInfo160, Proofs.Try.typeInfo161, Proofs.Try.typeInfo162, Proofs.Try.typeInfo163, Proofs.Try.typeInfo164, Proofs.Try.typeInfo165, Proofs.Try.typeInfo166, Proofs.Try.typeInfo167, Proofs.Try.typeInfo168, Proofs.Try.typeInfo169, Proofs.Try.typeInfo170, Proofs.Try.typeInfo171, Proofs.Try.typeInfo172, Proofs.Try.typeInfo173, Proofs.Try.typeInfo174, Proofs.Try.typeInfo175, Proofs.Try.typeInfo176, Proofs.Try.typeInfo177, Proofs.Try.typeInfo178, Proofs.Try.typeInfo179, Proofs.Try.typeInfo180, Proofs.Try.typeInfo181, Proofs.Try.typeInfo182, Proofs.Try.typeInfo183, Proofs.Try.typeInfo184, trivial⟩
noncomputable def und (t : Nat) : Option TypeDesc := undL[t]?
noncomputable def tinfo (t : Nat) : Option TypeInfo := tiL[t]?
theorem und_ok {t : Nat} {u : TypeDesc} (h : und t = some u) : ∀ w, (underlying t).run Proofs.Try.prog w = .ok u w := by
  have := undL_all.get h; simpa using this
theorem tinfo_ok {t : Nat} {u : TypeInfo} (h : tinfo t = some u) : ∀ w, (typeInfo t).run Proofs.Try.prog w = .ok u w := by
  have := tiL_all.get h; simpa using this
def aggOf : TypeDesc → Bool
  | .struct _ => true
  | .array _ _ => true
  | _ => false
theorem isAgg_of {P : Program} {t : TypeId} {u : TypeDesc} (h : ∀ w, (underlying t).run P w = .ok u w) : ∀ w, (isAgg t).run P w = .ok (aggOf u) w := by
  intro w; simp only [isAgg, Sem.run_bind, h, Result.andThen_ok]; cases u <;> rfl
noncomputable def T : Tab Proofs.Try.prog where
  und := und
  size t := (tinfo t).map (·.size)
  agg t := (und t).map aggOf
  zero t := (tinfo t).bind (·.zero)
  undOk := und_ok
  sizeOk {t m} h w := by
    cases hi : tinfo t with
    | none => simp [hi] at h
    | some u => simp [hi] at h; simp [sizeOf, tinfo_ok hi, h]
  aggOk {t b} h w := by
    cases hi : und t with
    | none => simp [hi] at h
    | some u => simp [hi] at h; rw [isAgg_of (und_ok hi), h]
  zeroOk {t z} h w := by
    cases hi : tinfo t with
    | none => simp [hi] at h
    | some u => simp [hi] at h; simp [zeroValue, tinfo_ok hi, h]

theorem bd7 : ∀ w ps cells, Instr.fill (([(0, 1), (1, 1), (2, 1), (3, 1)] : List (Nat × Nat))[·]?) (Proofs.Try.t7.zero.getD undef).cells ps = some cells → (Instr.build 7 ps.toArray).run Proofs.Try.prog w = .ok (.agg cells) w := by
  intro w ps cells h
  simp only [Proofs.Try.t7, Option.getD] at h
  simp [Instr.build, Proofs.Try.runUnderlying7, Proofs.Try.zeroValue7, Proofs.Try.sizeOf2, Proofs.Try.sizeOf3, Proofs.Try.sizeOf4, Proofs.Try.sizeOf6, h]
theorem bd8 : ∀ w ps cells, Instr.fill (([(0, 1), (1, 1), (2, 1), (3, 1)] : List (Nat × Nat))[·]?) (Proofs.Try.t8.zero.getD undef).cells ps = some cells → (Instr.build 8 ps.toArray).run Proofs.Try.prog w = .ok (.agg cells) w := by
  intro w ps cells h
  simp only [Proofs.Try.t8, Option.getD] at h
  simp [Instr.build, Proofs.Try.runUnderlying8, Proofs.Try.zeroValue8, Proofs.Try.sizeOf2, Proofs.Try.sizeOf3, Proofs.Try.sizeOf4, Proofs.Try.sizeOf6, h]
theorem bd13 : ∀ w ps cells, Instr.fill (([(0, 1), (1, 1)] : List (Nat × Nat))[·]?) (Proofs.Try.t13.zero.getD undef).cells ps = some cells → (Instr.build 13 ps.toArray).run Proofs.Try.prog w = .ok (.agg cells) w := by
  intro w ps cells h
  simp only [Proofs.Try.t13, Option.getD] at h
  simp [Instr.build, Proofs.Try.runUnderlying13, Proofs.Try.zeroValue13, Proofs.Try.sizeOf9, Proofs.Try.sizeOf12, h]
theorem bd14 : ∀ w ps cells, Instr.fill (([(0, 1), (1, 1)] : List (Nat × Nat))[·]?) (Proofs.Try.t14.zero.getD undef).cells ps = some cells → (Instr.build 14 ps.toArray).run Proofs.Try.prog w = .ok (.agg cells) w := by
  intro w ps cells h
  simp only [Proofs.Try.t14, Option.getD] at h
  simp [Instr.build, Proofs.Try.runUnderlying14, Proofs.Try.zeroValue14, Proofs.Try.sizeOf9, Proofs.Try.sizeOf12, h]
theorem bd18 : ∀ w ps cells, Instr.fill (([(0, 1)] : List (Nat × Nat))[·]?) (Proofs.Try.t18.zero.getD undef).cells ps = some cells → (Instr.build 18 ps.toArray).run Proofs.Try.prog w = .ok (.agg cells) w := by
  intro w ps cells h
  simp only [Proofs.Try.t18, Option.getD] at h
  simp [Instr.build, Proofs.Try.runUnderlying18, Proofs.Try.zeroValue18, Proofs.Try.sizeOf17, h]
theorem bd19 : ∀ w ps cells, Instr.fill (([(0, 1)] : List (Nat × Nat))[·]?) (Proofs.Try.t19.zero.getD undef).cells ps = some cells → (Instr.build 19 ps.toArray).run Proofs.Try.prog w = .ok (.agg cells) w := by
  intro w ps cells h
  simp only [Proofs.Try.t19, Option.getD] at h
  simp [Instr.build, Proofs.Try.runUnderlying19, Proofs.Try.zeroValue19, Proofs.Try.sizeOf17, h]
theorem bd22 : ∀ w ps cells, Instr.fill (([(0, 1), (1, 1), (2, 1), (3, 1), (4, 1)] : List (Nat × Nat))[·]?) (Proofs.Try.t22.zero.getD undef).cells ps = some cells → (Instr.build 22 ps.toArray).run Proofs.Try.prog w = .ok (.agg cells) w := by
  intro w ps cells h
  simp only [Proofs.Try.t22, Option.getD] at h
  simp [Instr.build, Proofs.Try.runUnderlying22, Proofs.Try.zeroValue22, Proofs.Try.sizeOf9, h]
theorem bd23 : ∀ w ps cells, Instr.fill (([(0, 1), (1, 1), (2, 1), (3, 1), (4, 1)] : List (Nat × Nat))[·]?) (Proofs.Try.t23.zero.getD undef).cells ps = some cells → (Instr.build 23 ps.toArray).run Proofs.Try.prog w = .ok (.agg cells) w := by
  intro w ps cells h
  simp only [Proofs.Try.t23, Option.getD] at h
  simp [Instr.build, Proofs.Try.runUnderlying23, Proofs.Try.zeroValue23, Proofs.Try.sizeOf9, h]
theorem el30 : Elem Proofs.Try.prog 30 9 1 16 := ⟨Proofs.Try.underlying30, Proofs.Try.t9, _, by kernel_rfl, rfl, rfl, rfl, rfl⟩
theorem bd33 : ∀ w ps cells, Instr.fill (([(0, 1), (1, 1), (2, 1), (3, 1), (4, 1), (5, 1)] : List (Nat × Nat))[·]?) (Proofs.Try.t33.zero.getD undef).cells ps = some cells → (Instr.build 33 ps.toArray).run Proofs.Try.prog w = .ok (.agg cells) w := by
  intro w ps cells h
  simp only [Proofs.Try.t33, Option.getD] at h
  simp [Instr.build, Proofs.Try.runUnderlying33, Proofs.Try.zeroValue33, Proofs.Try.sizeOf4, h]
theorem bd34 : ∀ w ps cells, Instr.fill (([(0, 1), (1, 1), (2, 1), (3, 1), (4, 1), (5, 1)] : List (Nat × Nat))[·]?) (Proofs.Try.t34.zero.getD undef).cells ps = some cells → (Instr.build 34 ps.toArray).run Proofs.Try.prog w = .ok (.agg cells) w := by
  intro w ps cells h
  simp only [Proofs.Try.t34, Option.getD] at h
  simp [Instr.build, Proofs.Try.runUnderlying34, Proofs.Try.zeroValue34, Proofs.Try.sizeOf4, h]
theorem bd37 : ∀ w ps cells, Instr.fill (([(0, 1), (1, 1), (2, 1), (3, 1), (4, 1), (5, 1)] : List (Nat × Nat))[·]?) (Proofs.Try.t37.zero.getD undef).cells ps = some cells → (Instr.build 37 ps.toArray).run Proofs.Try.prog w = .ok (.agg cells) w := by
  intro w ps cells h
  simp only [Proofs.Try.t37, Option.getD] at h
  simp [Instr.build, Proofs.Try.runUnderlying37, Proofs.Try.zeroValue37, Proofs.Try.sizeOf9, Proofs.Try.sizeOf30, h]
theorem bd38 : ∀ w ps cells, Instr.fill (([(0, 1), (1, 1), (2, 1), (3, 1), (4, 1), (5, 1)] : List (Nat × Nat))[·]?) (Proofs.Try.t38.zero.getD undef).cells ps = some cells → (Instr.build 38 ps.toArray).run Proofs.Try.prog w = .ok (.agg cells) w := by
  intro w ps cells h
  simp only [Proofs.Try.t38, Option.getD] at h
  simp [Instr.build, Proofs.Try.runUnderlying38, Proofs.Try.zeroValue38, Proofs.Try.sizeOf9, Proofs.Try.sizeOf30, h]
theorem el46 : Elem Proofs.Try.prog 46 51 2 32 := ⟨Proofs.Try.underlying46, Proofs.Try.t51, _, by kernel_rfl, rfl, rfl, rfl, rfl⟩
theorem el47 : Elem Proofs.Try.prog 47 38 6 112 := ⟨Proofs.Try.underlying47, Proofs.Try.t38, _, by kernel_rfl, rfl, rfl, rfl, rfl⟩
theorem bd48 : ∀ w ps cells, Instr.fill (([(0, 1), (1, 1), (2, 1), (3, 1), (4, 1), (5, 1)] : List (Nat × Nat))[·]?) (Proofs.Try.t48.zero.getD undef).cells ps = some cells → (Instr.build 48 ps.toArray).run Proofs.Try.prog w = .ok (.agg cells) w := by
  intro w ps cells h
  simp only [Proofs.Try.t48, Option.getD] at h
  simp [Instr.build, Proofs.Try.runUnderlying48, Proofs.Try.zeroValue48, Proofs.Try.sizeOf3, Proofs.Try.sizeOf9, Proofs.Try.sizeOf30, Proofs.Try.sizeOf46, Proofs.Try.sizeOf47, h]
theorem bd49 : ∀ w ps cells, Instr.fill (([(0, 1), (1, 1), (2, 1), (3, 1), (4, 1), (5, 1)] : List (Nat × Nat))[·]?) (Proofs.Try.t49.zero.getD undef).cells ps = some cells → (Instr.build 49 ps.toArray).run Proofs.Try.prog w = .ok (.agg cells) w := by
  intro w ps cells h
  simp only [Proofs.Try.t49, Option.getD] at h
  simp [Instr.build, Proofs.Try.runUnderlying49, Proofs.Try.zeroValue49, Proofs.Try.sizeOf3, Proofs.Try.sizeOf9, Proofs.Try.sizeOf30, Proofs.Try.sizeOf46, Proofs.Try.sizeOf47, h]
theorem bd50 : ∀ w ps cells, Instr.fill (([(0, 1), (1, 1)] : List (Nat × Nat))[·]?) (Proofs.Try.t50.zero.getD undef).cells ps = some cells → (Instr.build 50 ps.toArray).run Proofs.Try.prog w = .ok (.agg cells) w := by
  intro w ps cells h
  simp only [Proofs.Try.t50, Option.getD] at h
  simp [Instr.build, Proofs.Try.runUnderlying50, Proofs.Try.zeroValue50, Proofs.Try.sizeOf9, h]
theorem bd51 : ∀ w ps cells, Instr.fill (([(0, 1), (1, 1)] : List (Nat × Nat))[·]?) (Proofs.Try.t51.zero.getD undef).cells ps = some cells → (Instr.build 51 ps.toArray).run Proofs.Try.prog w = .ok (.agg cells) w := by
  intro w ps cells h
  simp only [Proofs.Try.t51, Option.getD] at h
  simp [Instr.build, Proofs.Try.runUnderlying51, Proofs.Try.zeroValue51, Proofs.Try.sizeOf9, h]
theorem el52 : Elem Proofs.Try.prog 52 90 2 32 := ⟨Proofs.Try.underlying52, Proofs.Try.t90, _, by kernel_rfl, rfl, rfl, rfl, rfl⟩
theorem bd53 : ∀ w ps cells, Instr.fill (([(0, 1), (1, 1), (2, 2), (4, 1), (5, 1), (6, 1), (7, 1), (8, 1)] : List (Nat × Nat))[·]?) (Proofs.Try.t53.zero.getD undef).cells ps = some cells → (Instr.build 53 ps.toArray).run Proofs.Try.prog w = .ok (.agg cells) w := by
  intro w ps cells h
  simp only [Proofs.Try.t53, Option.getD] at h
  simp [Instr.build, Proofs.Try.runUnderlying53, Proofs.Try.zeroValue53, Proofs.Try.sizeOf2, Proofs.Try.sizeOf9, Proofs.Try.sizeOf30, Proofs.Try.sizeOf47, Proofs.Try.sizeOf51, Proofs.Try.sizeOf52, h]
theorem bd54 : ∀ w ps cells, Instr.fill (([(0, 1), (1, 1), (2, 2), (4, 1), (5, 1), (6, 1), (7, 1), (8, 1)] : List (Nat × Nat))[·]?) (Proofs.Try.t54.zero.getD undef).cells ps = some cells → (Instr.build 54 ps.toArray).run Proofs.Try.prog w = .ok (.agg cells) w := by
  intro w ps cells h
  simp only [Proofs.Try.t54, Option.getD] at h
  simp [Instr.build, Proofs.Try.runUnderlying54, Proofs.Try.zeroValue54, Proofs.Try.sizeOf2, Proofs.Try.sizeOf9, Proofs.Try.sizeOf30, Proofs.Try.sizeOf47, Proofs.Try.sizeOf51, Proofs.Try.sizeOf52, h]
theorem bd63 : ∀ w ps cells, Instr.fill (([(0, 1), (1, 1)] : List (Nat × Nat))[·]?) (Proofs.Try.t63.zero.getD undef).cells ps = some cells → (Instr.build 63 ps.toArray).run Proofs.Try.prog w = .ok (.agg cells) w := by
  intro w ps cells h
  simp only [Proofs.Try.t63, Option.getD] at h
  simp [Instr.build, Proofs.Try.runUnderlying63, Proofs.Try.zeroValue63, Proofs.Try.sizeOf9, h]
theorem bd64 : ∀ w ps cells, Instr.fill (([(0, 1), (1, 1)] : List (Nat × Nat))[·]?) (Proofs.Try.t64.zero.getD undef).cells ps = some cells → (Instr.build 64 ps.toArray).run Proofs.Try.prog w = .ok (.agg cells) w := by
  intro w ps cells h
  simp only [Proofs.Try.t64, Option.getD] at h
  simp [Instr.build, Proofs.Try.runUnderlying64, Proofs.Try.zeroValue64, Proofs.Try.sizeOf9, h]
theorem bd66 : ∀ w ps cells, Instr.fill (([(0, 1)] : List (Nat × Nat))[·]?) (Proofs.Try.t66.zero.getD undef).cells ps = some cells → (Instr.build 66 ps.toArray).run Proofs.Try.prog w = .ok (.agg cells) w := by
  intro w ps cells h
  simp only [Proofs.Try.t66, Option.getD] at h
  simp [Instr.build, Proofs.Try.runUnderlying66, Proofs.Try.zeroValue66, Proofs.Try.sizeOf9, h]
theorem bd67 : ∀ w ps cells, Instr.fill (([(0, 1)] : List (Nat × Nat))[·]?) (Proofs.Try.t67.zero.getD undef).cells ps = some cells → (Instr.build 67 ps.toArray).run Proofs.Try.prog w = .ok (.agg cells) w := by
  intro w ps cells h
  simp only [Proofs.Try.t67, Option.getD] at h
  simp [Instr.build, Proofs.Try.runUnderlying67, Proofs.Try.zeroValue67, Proofs.Try.sizeOf9, h]
theorem bd71 : ∀ w ps cells, Instr.fill (([(0, 1), (1, 1), (2, 1), (3, 1), (4, 1)] : List (Nat × Nat))[·]?) (Proofs.Try.t71.zero.getD undef).cells ps = some cells → (Instr.build 71 ps.toArray).run Proofs.Try.prog w = .ok (.agg cells) w := by
  intro w ps cells h
  simp only [Proofs.Try.t71, Option.getD] at h
  simp [Instr.build, Proofs.Try.runUnderlying71, Proofs.Try.zeroValue71, Proofs.Try.sizeOf9, h]
theorem bd72 : ∀ w ps cells, Instr.fill (([(0, 1), (1, 1), (2, 1), (3, 1), (4, 1)] : List (Nat × Nat))[·]?) (Proofs.Try.t72.zero.getD undef).cells ps = some cells → (Instr.build 72 ps.toArray).run Proofs.Try.prog w = .ok (.agg cells) w := by
  intro w ps cells h
  simp only [Proofs.Try.t72, Option.getD] at h
  simp [Instr.build, Proofs.Try.runUnderlying72, Proofs.Try.zeroValue72, Proofs.Try.sizeOf9, h]
theorem bd81 : ∀ w ps cells, Instr.fill (([(0, 1), (1, 1), (2, 1), (3, 1), (4, 1), (5, 1)] : List (Nat × Nat))[·]?) (Proofs.Try.t81.zero.getD undef).cells ps = some cells → (Instr.build 81 ps.toArray).run Proofs.Try.prog w = .ok (.agg cells) w := by
  intro w ps cells h
  simp only [Proofs.Try.t81, Option.getD] at h
  simp [Instr.build, Proofs.Try.runUnderlying81, Proofs.Try.zeroValue81, Proofs.Try.sizeOf9, Proofs.Try.sizeOf30, h]
theorem bd82 : ∀ w ps cells, Instr.fill (([(0, 1), (1, 1), (2, 1), (3, 1), (4, 1), (5, 1)] : List (Nat × Nat))[·]?) (Proofs.Try.t82.zero.getD undef).cells ps = some cells → (Instr.build 82 ps.toArray).run Proofs.Try.prog w = .ok (.agg cells) w := by
  intro w ps cells h
  simp only [Proofs.Try.t82, Option.getD] at h
  simp [Instr.build, Proofs.Try.runUnderlying82, Proofs.Try.zeroValue82, Proofs.Try.sizeOf9, Proofs.Try.sizeOf30, h]
theorem bd89 : ∀ w ps cells, Instr.fill (([(0, 1), (1, 1)] : List (Nat × Nat))[·]?) (Proofs.Try.t89.zero.getD undef).cells ps = some cells → (Instr.build 89 ps.toArray).run Proofs.Try.prog w = .ok (.agg cells) w := by
  intro w ps cells h
  simp only [Proofs.Try.t89, Option.getD] at h
  simp [Instr.build, Proofs.Try.runUnderlying89, Proofs.Try.zeroValue89, Proofs.Try.sizeOf9, h]
theorem bd90 : ∀ w ps cells, Instr.fill (([(0, 1), (1, 1)] : List (Nat × Nat))[·]?) (Proofs.Try.t90.zero.getD undef).cells ps = some cells → (Instr.build 90 ps.toArray).run Proofs.Try.prog w = .ok (.agg cells) w := by
  intro w ps cells h
  simp only [Proofs.Try.t90, Option.getD] at h
  simp [Instr.build, Proofs.Try.runUnderlying90, Proofs.Try.zeroValue90, Proofs.Try.sizeOf9, h]
theorem bd94 : ∀ w ps cells, Instr.fill (([(0, 1), (1, 1)] : List (Nat × Nat))[·]?) (Proofs.Try.t94.zero.getD undef).cells ps = some cells → (Instr.build 94 ps.toArray).run Proofs.Try.prog w = .ok (.agg cells) w := by
  intro w ps cells h
  simp only [Proofs.Try.t94, Option.getD] at h
  simp [Instr.build, Proofs.Try.runUnderlying94, Proofs.Try.zeroValue94, Proofs.Try.sizeOf9, h]
theorem el95 : Elem Proofs.Try.prog 95 5 1 1 := ⟨Proofs.Try.underlying95, Proofs.Try.t5, _, by kernel_rfl, rfl, rfl, rfl, rfl⟩
theorem bd97 : ∀ w ps cells, Instr.fill (([(0, 1), (1, 1), (2, 2), (4, 1), (5, 1), (6, 1), (7, 1), (8, 1)] : List (Nat × Nat))[·]?) (Proofs.Try.t97.zero.getD undef).cells ps = some cells → (Instr.build 97 ps.toArray).run Proofs.Try.prog w = .ok (.agg cells) w := by
  intro w ps cells h
  simp only [Proofs.Try.t97, Option.getD] at h
  simp [Instr.build, Proofs.Try.runUnderlying97, Proofs.Try.zeroValue97, Proofs.Try.sizeOf2, Proofs.Try.sizeOf9, Proofs.Try.sizeOf30, Proofs.Try.sizeOf73, Proofs.Try.sizeOf75, Proofs.Try.sizeOf94, Proofs.Try.sizeOf95, Proofs.Try.sizeOf96, h]
theorem bd98 : ∀ w ps cells, Instr.fill (([(0, 1), (1, 1), (2, 2), (4, 1), (5, 1), (6, 1), (7, 1), (8, 1)] : List (Nat × Nat))[·]?) (Proofs.Try.t98.zero.getD undef).cells ps = some cells → (Instr.build 98 ps.toArray).run Proofs.Try.prog w = .ok (.agg cells) w := by
  intro w ps cells h
  simp only [Proofs.Try.t98, Option.getD] at h
  simp [Instr.build, Proofs.Try.runUnderlying98, Proofs.Try.zeroValue98, Proofs.Try.sizeOf2, Proofs.Try.sizeOf9, Proofs.Try.sizeOf30, Proofs.Try.sizeOf73, Proofs.Try.sizeOf75, Proofs.Try.sizeOf94, Proofs.Try.sizeOf95, Proofs.Try.sizeOf96, h]
theorem bd106 : ∀ w ps cells, Instr.fill (([(0, 5)] : List (Nat × Nat))[·]?) (Proofs.Try.t106.zero.getD undef).cells ps = some cells → (Instr.build 106 ps.toArray).run Proofs.Try.prog w = .ok (.agg cells) w := by
  intro w ps cells h
  simp only [Proofs.Try.t106, Option.getD] at h
  simp [Instr.build, Proofs.Try.runUnderlying106, Proofs.Try.zeroValue106, Proofs.Try.sizeOf72, h]
theorem bd107 : ∀ w ps cells, Instr.fill (([(0, 5)] : List (Nat × Nat))[·]?) (Proofs.Try.t107.zero.getD undef).cells ps = some cells → (Instr.build 107 ps.toArray).run Proofs.Try.prog w = .ok (.agg cells) w := by
  intro w ps cells h
  simp only [Proofs.Try.t107, Option.getD] at h
  simp [Instr.build, Proofs.Try.runUnderlying107, Proofs.Try.zeroValue107, Proofs.Try.sizeOf72, h]
theorem bd114 : ∀ w ps cells, Instr.fill (([(0, 1), (1, 1)] : List (Nat × Nat))[·]?) (Proofs.Try.t114.zero.getD undef).cells ps = some cells → (Instr.build 114 ps.toArray).run Proofs.Try.prog w = .ok (.agg cells) w := by
  intro w ps cells h
  simp only [Proofs.Try.t114, Option.getD] at h
  simp [Instr.build, Proofs.Try.runUnderlying114, Proofs.Try.zeroValue114, Proofs.Try.sizeOf95, Proofs.Try.sizeOf113, h]
theorem bd115 : ∀ w ps cells, Instr.fill (([(0, 1), (1, 1)] : List (Nat × Nat))[·]?) (Proofs.Try.t115.zero.getD undef).cells ps = some cells → (Instr.build 115 ps.toArray).run Proofs.Try.prog w = .ok (.agg cells) w := by
  intro w ps cells h
  simp only [Proofs.Try.t115, Option.getD] at h
  simp [Instr.build, Proofs.Try.runUnderlying115, Proofs.Try.zeroValue115, Proofs.Try.sizeOf95, Proofs.Try.sizeOf113, h]
theorem el120 : Elem Proofs.Try.prog 120 94 2 32 := ⟨Proofs.Try.underlying120, Proofs.Try.t94, _, by kernel_rfl, rfl, rfl, rfl, rfl⟩
theorem el125 : Elem Proofs.Try.prog 125 82 6 112 := ⟨Proofs.Try.underlying125, Proofs.Try.t82, _, by kernel_rfl, rfl, rfl, rfl, rfl⟩
theorem bd131 : ∀ w ps cells, Instr.fill (([(0, 1)] : List (Nat × Nat))[·]?) (Proofs.Try.t131.zero.getD undef).cells ps = some cells → (Instr.build 131 ps.toArray).run Proofs.Try.prog w = .ok (.agg cells) w := by
  intro w ps cells h
  simp only [Proofs.Try.t131, Option.getD] at h
  simp [Instr.build, Proofs.Try.runUnderlying131, Proofs.Try.zeroValue131, Proofs.Try.sizeOf9, h]
theorem bd132 : ∀ w ps cells, Instr.fill (([(0, 1)] : List (Nat × Nat))[·]?) (Proofs.Try.t132.zero.getD undef).cells ps = some cells → (Instr.build 132 ps.toArray).run Proofs.Try.prog w = .ok (.agg cells) w := by
  intro w ps cells h
  simp only [Proofs.Try.t132, Option.getD] at h
  simp [Instr.build, Proofs.Try.runUnderlying132, Proofs.Try.zeroValue132, Proofs.Try.sizeOf9, h]
theorem bd167 : ∀ w ps cells, Instr.fill (([(0, 1), (1, 1), (2, 1), (3, 1)] : List (Nat × Nat))[·]?) (Proofs.Try.t167.zero.getD undef).cells ps = some cells → (Instr.build 167 ps.toArray).run Proofs.Try.prog w = .ok (.agg cells) w := by
  intro w ps cells h
  simp only [Proofs.Try.t167, Option.getD] at h
  simp [Instr.build, Proofs.Try.runUnderlying167, Proofs.Try.zeroValue167, Proofs.Try.sizeOf9, Proofs.Try.sizeOf17, h]
theorem bd168 : ∀ w ps cells, Instr.fill (([(0, 1), (1, 1), (2, 1), (3, 1)] : List (Nat × Nat))[·]?) (Proofs.Try.t168.zero.getD undef).cells ps = some cells → (Instr.build 168 ps.toArray).run Proofs.Try.prog w = .ok (.agg cells) w := by
  intro w ps cells h
  simp only [Proofs.Try.t168, Option.getD] at h
  simp [Instr.build, Proofs.Try.runUnderlying168, Proofs.Try.zeroValue168, Proofs.Try.sizeOf9, Proofs.Try.sizeOf17, h]
theorem bd170 : ∀ w ps cells, Instr.fill (([(0, 0)] : List (Nat × Nat))[·]?) (Proofs.Try.t170.zero.getD undef).cells ps = some cells → (Instr.build 170 ps.toArray).run Proofs.Try.prog w = .ok (.agg cells) w := by
  intro w ps cells h
  simp only [Proofs.Try.t170, Option.getD] at h
  simp [Instr.build, Proofs.Try.runUnderlying170, Proofs.Try.zeroValue170, Proofs.Try.sizeOf169, h]
theorem bd171 : ∀ w ps cells, Instr.fill (([(0, 0)] : List (Nat × Nat))[·]?) (Proofs.Try.t171.zero.getD undef).cells ps = some cells → (Instr.build 171 ps.toArray).run Proofs.Try.prog w = .ok (.agg cells) w := by
  intro w ps cells h
  simp only [Proofs.Try.t171, Option.getD] at h
  simp [Instr.build, Proofs.Try.runUnderlying171, Proofs.Try.zeroValue171, Proofs.Try.sizeOf169, h]
theorem bd178 : ∀ w ps cells, Instr.fill (([(0, 1), (1, 1), (2, 1), (3, 1), (4, 1), (5, 1), (6, 1), (7, 1), (8, 1), (9, 1), (10, 1)] : List (Nat × Nat))[·]?) (Proofs.Try.t178.zero.getD undef).cells ps = some cells → (Instr.build 178 ps.toArray).run Proofs.Try.prog w = .ok (.agg cells) w := by
  intro w ps cells h
  simp only [Proofs.Try.t178, Option.getD] at h
  simp [Instr.build, Proofs.Try.runUnderlying178, Proofs.Try.zeroValue178, Proofs.Try.sizeOf5, Proofs.Try.sizeOf12, Proofs.Try.sizeOf133, Proofs.Try.sizeOf155, Proofs.Try.sizeOf173, Proofs.Try.sizeOf174, Proofs.Try.sizeOf175, Proofs.Try.sizeOf176, Proofs.Try.sizeOf177, h]
theorem bd179 : ∀ w ps cells, Instr.fill (([(0, 1), (1, 1), (2, 1), (3, 1), (4, 1), (5, 1), (6, 1), (7, 1), (8, 1), (9, 1), (10, 1)] : List (Nat × Nat))[·]?) (Proofs.Try.t179.zero.getD undef).cells ps = some cells → (Instr.build 179 ps.toArray).run Proofs.Try.prog w = .ok (.agg cells) w := by
  intro w ps cells h
  simp only [Proofs.Try.t179, Option.getD] at h
  simp [Instr.build, Proofs.Try.runUnderlying179, Proofs.Try.zeroValue179, Proofs.Try.sizeOf5, Proofs.Try.sizeOf12, Proofs.Try.sizeOf133, Proofs.Try.sizeOf155, Proofs.Try.sizeOf173, Proofs.Try.sizeOf174, Proofs.Try.sizeOf175, Proofs.Try.sizeOf176, Proofs.Try.sizeOf177, h]
theorem bd183 : ∀ w ps cells, Instr.fill (([(0, 1), (1, 1), (2, 1)] : List (Nat × Nat))[·]?) (Proofs.Try.t183.zero.getD undef).cells ps = some cells → (Instr.build 183 ps.toArray).run Proofs.Try.prog w = .ok (.agg cells) w := by
  intro w ps cells h
  simp only [Proofs.Try.t183, Option.getD] at h
  simp [Instr.build, Proofs.Try.runUnderlying183, Proofs.Try.zeroValue183, Proofs.Try.sizeOf4, Proofs.Try.sizeOf95, h]
theorem bd184 : ∀ w ps cells, Instr.fill (([(0, 1), (1, 1), (2, 1)] : List (Nat × Nat))[·]?) (Proofs.Try.t184.zero.getD undef).cells ps = some cells → (Instr.build 184 ps.toArray).run Proofs.Try.prog w = .ok (.agg cells) w := by
  intro w ps cells h
  simp only [Proofs.Try.t184, Option.getD] at h
  simp [Instr.build, Proofs.Try.runUnderlying184, Proofs.Try.zeroValue184, Proofs.Try.sizeOf4, Proofs.Try.sizeOf95, h]
end Go.V
