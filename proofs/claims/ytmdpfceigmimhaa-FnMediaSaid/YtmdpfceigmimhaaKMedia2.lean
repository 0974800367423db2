/-
  Media types: the known ones, and what the document says of them.
-/
import Derived.Test.YtmdpfceigmimhaaKMedia
namespace Go.V
open Go.RowKit
set_option linter.unusedVariables false
set_option linter.unusedSimpArgs false
set_option maxRecDepth 10000
attribute [local irreducible] Run Ops

def mtOci : List UInt8 := [97, 112, 112, 108, 105, 99, 97, 116, 105, 111, 110, 47, 118, 110, 100, 46, 111, 99, 105, 46]
def mtDocker : List UInt8 := [97, 112, 112, 108, 105, 99, 97, 116, 105, 111, 110, 47, 118, 110, 100, 46, 100, 111, 99, 107, 101, 114, 46]
def mtKnown : List (List UInt8) := [mtOci ++ [100, 101, 115, 99, 114, 105, 112, 116, 111, 114, 46, 118, 49, 43, 106, 115, 111, 110], mtOci ++ [105, 109, 97, 103, 101, 46, 105, 110, 100, 101, 120, 46, 118, 49, 43, 106, 115, 111, 110], mtOci ++ [105, 109, 97, 103, 101, 46, 109, 97, 110, 105, 102, 101, 115, 116, 46, 118, 49, 43, 106, 115, 111, 110], mtOci ++ [105, 109, 97, 103, 101, 46, 99, 111, 110, 102, 105, 103, 46, 118, 49, 43, 106, 115, 111, 110], mtOci ++ [105, 109, 97, 103, 101, 46, 108, 97, 121, 101, 114, 46, 118, 49, 46, 116, 97, 114, 43, 103, 122, 105, 112], mtOci ++ [105, 109, 97, 103, 101, 46, 108, 97, 121, 101, 114, 46, 118, 49, 46, 116, 97, 114, 43, 122, 115, 116, 100], mtOci ++ [105, 109, 97, 103, 101, 46, 108, 97, 121, 101, 114, 46, 110, 111, 110, 100, 105, 115, 116, 114, 105, 98, 117, 116, 97, 98, 108, 101, 46, 118, 49, 46, 116, 97, 114, 43, 103, 122, 105, 112], mtOci ++ [105, 109, 97, 103, 101, 46, 108, 97, 121, 101, 114, 46, 118, 49, 46, 116, 97, 114], mtOci ++ [105, 109, 97, 103, 101, 46, 108, 97, 121, 101, 114, 46, 110, 111, 110, 100, 105, 115, 116, 114, 105, 98, 117, 116, 97, 98, 108, 101, 46, 118, 49, 46, 116, 97, 114], mtDocker ++ [100, 105, 115, 116, 114, 105, 98, 117, 116, 105, 111, 110, 46, 109, 97, 110, 105, 102, 101, 115, 116, 46, 118, 49, 43, 106, 115, 111, 110], mtDocker ++ [100, 105, 115, 116, 114, 105, 98, 117, 116, 105, 111, 110, 46, 109, 97, 110, 105, 102, 101, 115, 116, 46, 118, 49, 43, 112, 114, 101, 116, 116, 121, 106, 119, 115], mtDocker ++ [100, 105, 115, 116, 114, 105, 98, 117, 116, 105, 111, 110, 46, 109, 97, 110, 105, 102, 101, 115, 116, 46, 118, 50, 43, 106, 115, 111, 110], mtDocker ++ [100, 105, 115, 116, 114, 105, 98, 117, 116, 105, 111, 110, 46, 109, 97, 110, 105, 102, 101, 115, 116, 46, 108, 105, 115, 116, 46, 118, 50, 43, 106, 115, 111, 110], mtDocker ++ [105, 109, 97, 103, 101, 46, 114, 111, 111, 116, 102, 115, 46, 100, 105, 102, 102, 46, 116, 97, 114, 46, 103, 122, 105, 112], mtDocker ++ [99, 111, 110, 116, 97, 105, 110, 101, 114, 46, 105, 109, 97, 103, 101, 46, 118, 49, 43, 106, 115, 111, 110], mtDocker ++ [112, 108, 117, 103, 105, 110, 46, 118, 49, 43, 106, 115, 111, 110], mtDocker ++ [105, 109, 97, 103, 101, 46, 114, 111, 111, 116, 102, 115, 46, 102, 111, 114, 101, 105, 103, 110, 46, 100, 105, 102, 102, 46, 116, 97, 114, 46, 103, 122, 105, 112], mtDocker ++ [105, 109, 97, 103, 101, 46, 114, 111, 111, 116, 102, 115, 46, 100, 105, 102, 102, 46, 116, 97, 114]]
def mtKinds : List UInt8 := [45, 120, 105, 99, 108, 108, 114, 108, 114, 49, 49, 105, 120, 108, 99, 45, 114, 108]

set_option maxHeartbeats 1000000 in
theorem spec_MediaKnown (I : Imm) : Pure Proofs.Try.prog 14 [] I fun v J => ∃ u, v = .tuple #[u, str mtKinds] ∧ Sl tStr J u mtKnown := by
  refine Spec.enter 41 [] Proofs.Try.func14 rfl Proofs.Try.ntmps14 (by simp) rfl ?_
  intro C hCf hR hCI
  repeat (first | refine Run.seq ?_ | refine Run.region ?_ | refine Ops.nil ?_ | refine Ops.cat rfl (by decide) rfl rfl (by first | omega | (simp only [List.length_cons, List.length_nil] ; omega) | (simp; omega)) ?_ | refine Ops.pure T rfl (by decide) rfl ?_)
  refine Ops.lit T rfl rfl rfl (by decide) rfl (by decide) (by decide) rfl rfl rfl rfl rfl (fun b => ?_)
  repeat (first | refine Run.seq ?_ | refine Run.region ?_ | refine Ops.nil ?_ | refine Ops.cat rfl (by decide) rfl rfl (by first | omega | (simp only [List.length_cons, List.length_nil] ; omega) | (simp; omega)) ?_ | refine Ops.pure T rfl (by decide) rfl ?_)
  refine Run.freeze fun J hle hb => ?_
  refine Run.ret2 (by rw [hCf]; exact Proofs.Try.func14) Proofs.Try.results14 rfl rfl (hR _ _ _ ?_)
  exact ⟨rfl, _, rfl, Sl.ofBlock hb (Cells.strs mtKnown) rfl (by decide)⟩

structure MT where
  cfg : Bool
  dis : Bool
  img : Bool
  idx : Bool
  lay : Bool
  sch : Bool
deriving DecidableEq
def MT.cs (m : MT) : List Value := [.bool m.cfg, .bool m.dis, .bool m.img, .bool m.idx, .bool m.lay, .bool m.sch]
def mtTells (s : List UInt8) : MT := ⟨mtIsConfig.contains s, !mtIsDistributable.contains s, mtIsImage.contains s, mtIsIndex.contains s, mtIsLayer.contains s, mtIsSchema1.contains s⟩

theorem impl_MediaTells (s : List UInt8) (I : Imm) : Pure Proofs.Try.prog 15 [str s] I fun v _ => v = .agg (mtTells s).cs.toArray := by
  refine Spec.enter 18 [(0, _)] Proofs.Try.func15 rfl Proofs.Try.ntmps15 (by simp) rfl ?_
  intro C hCf hR hCI
  repeat (first | refine Run.seq ?_ | refine Run.region ?_ | refine Ops.nil ?_ | refine Ops.pure T rfl (by decide) rfl ?_ | refine Ops.store 0 rfl rfl rfl rfl rfl (T.sizeOk rfl) rfl (Nat.le_of_ble_eq_true rfl) rfl rfl ?_ | refine Ops.store 1 rfl rfl rfl rfl rfl (T.sizeOk rfl) rfl (Nat.le_of_ble_eq_true rfl) rfl rfl ?_ | refine Ops.store 2 rfl rfl rfl rfl rfl (T.sizeOk rfl) rfl (Nat.le_of_ble_eq_true rfl) rfl rfl ?_ | refine Ops.store 3 rfl rfl rfl rfl rfl (T.sizeOk rfl) rfl (Nat.le_of_ble_eq_true rfl) rfl rfl ?_ | refine Ops.store 4 rfl rfl rfl rfl rfl (T.sizeOk rfl) rfl (Nat.le_of_ble_eq_true rfl) rfl rfl ?_ | refine Ops.store 5 rfl rfl rfl rfl rfl (T.sizeOk rfl) rfl (Nat.le_of_ble_eq_true rfl) rfl rfl ?_)
  refine Ops.alloc rfl (by decide) (T.zeroOk rfl) rfl (fun b => ?_)
  repeat (first | refine Run.seq ?_ | refine Run.region ?_ | refine Ops.nil ?_ | refine Ops.pure T rfl (by decide) rfl ?_ | refine Ops.store 0 rfl rfl rfl rfl rfl (T.sizeOk rfl) rfl (Nat.le_of_ble_eq_true rfl) rfl rfl ?_ | refine Ops.store 1 rfl rfl rfl rfl rfl (T.sizeOk rfl) rfl (Nat.le_of_ble_eq_true rfl) rfl rfl ?_ | refine Ops.store 2 rfl rfl rfl rfl rfl (T.sizeOk rfl) rfl (Nat.le_of_ble_eq_true rfl) rfl rfl ?_ | refine Ops.store 3 rfl rfl rfl rfl rfl (T.sizeOk rfl) rfl (Nat.le_of_ble_eq_true rfl) rfl rfl ?_ | refine Ops.store 4 rfl rfl rfl rfl rfl (T.sizeOk rfl) rfl (Nat.le_of_ble_eq_true rfl) rfl rfl ?_ | refine Ops.store 5 rfl rfl rfl rfl rfl (T.sizeOk rfl) rfl (Nat.le_of_ble_eq_true rfl) rfl rfl ?_)
  refine Ops.call ((types_IsConfig s I)) rfl (by decide) Proofs.Try.call40 rfl ?_
  rintro _ I1 hle1 rfl
  repeat (first | refine Run.seq ?_ | refine Run.region ?_ | refine Ops.nil ?_ | refine Ops.pure T rfl (by decide) rfl ?_ | refine Ops.store 0 rfl rfl rfl rfl rfl (T.sizeOk rfl) rfl (Nat.le_of_ble_eq_true rfl) rfl rfl ?_ | refine Ops.store 1 rfl rfl rfl rfl rfl (T.sizeOk rfl) rfl (Nat.le_of_ble_eq_true rfl) rfl rfl ?_ | refine Ops.store 2 rfl rfl rfl rfl rfl (T.sizeOk rfl) rfl (Nat.le_of_ble_eq_true rfl) rfl rfl ?_ | refine Ops.store 3 rfl rfl rfl rfl rfl (T.sizeOk rfl) rfl (Nat.le_of_ble_eq_true rfl) rfl rfl ?_ | refine Ops.store 4 rfl rfl rfl rfl rfl (T.sizeOk rfl) rfl (Nat.le_of_ble_eq_true rfl) rfl rfl ?_ | refine Ops.store 5 rfl rfl rfl rfl rfl (T.sizeOk rfl) rfl (Nat.le_of_ble_eq_true rfl) rfl rfl ?_)
  refine Ops.call ((types_IsDistributable s I1)) rfl (by decide) Proofs.Try.call41 rfl ?_
  rintro _ I2 hle2 rfl
  repeat (first | refine Run.seq ?_ | refine Run.region ?_ | refine Ops.nil ?_ | refine Ops.pure T rfl (by decide) rfl ?_ | refine Ops.store 0 rfl rfl rfl rfl rfl (T.sizeOk rfl) rfl (Nat.le_of_ble_eq_true rfl) rfl rfl ?_ | refine Ops.store 1 rfl rfl rfl rfl rfl (T.sizeOk rfl) rfl (Nat.le_of_ble_eq_true rfl) rfl rfl ?_ | refine Ops.store 2 rfl rfl rfl rfl rfl (T.sizeOk rfl) rfl (Nat.le_of_ble_eq_true rfl) rfl rfl ?_ | refine Ops.store 3 rfl rfl rfl rfl rfl (T.sizeOk rfl) rfl (Nat.le_of_ble_eq_true rfl) rfl rfl ?_ | refine Ops.store 4 rfl rfl rfl rfl rfl (T.sizeOk rfl) rfl (Nat.le_of_ble_eq_true rfl) rfl rfl ?_ | refine Ops.store 5 rfl rfl rfl rfl rfl (T.sizeOk rfl) rfl (Nat.le_of_ble_eq_true rfl) rfl rfl ?_)
  refine Ops.call ((types_IsImage s I2)) rfl (by decide) Proofs.Try.call42 rfl ?_
  rintro _ I3 hle3 rfl
  repeat (first | refine Run.seq ?_ | refine Run.region ?_ | refine Ops.nil ?_ | refine Ops.pure T rfl (by decide) rfl ?_ | refine Ops.store 0 rfl rfl rfl rfl rfl (T.sizeOk rfl) rfl (Nat.le_of_ble_eq_true rfl) rfl rfl ?_ | refine Ops.store 1 rfl rfl rfl rfl rfl (T.sizeOk rfl) rfl (Nat.le_of_ble_eq_true rfl) rfl rfl ?_ | refine Ops.store 2 rfl rfl rfl rfl rfl (T.sizeOk rfl) rfl (Nat.le_of_ble_eq_true rfl) rfl rfl ?_ | refine Ops.store 3 rfl rfl rfl rfl rfl (T.sizeOk rfl) rfl (Nat.le_of_ble_eq_true rfl) rfl rfl ?_ | refine Ops.store 4 rfl rfl rfl rfl rfl (T.sizeOk rfl) rfl (Nat.le_of_ble_eq_true rfl) rfl rfl ?_ | refine Ops.store 5 rfl rfl rfl rfl rfl (T.sizeOk rfl) rfl (Nat.le_of_ble_eq_true rfl) rfl rfl ?_)
  refine Ops.call ((types_IsIndex s I3)) rfl (by decide) Proofs.Try.call43 rfl ?_
  rintro _ I4 hle4 rfl
  repeat (first | refine Run.seq ?_ | refine Run.region ?_ | refine Ops.nil ?_ | refine Ops.pure T rfl (by decide) rfl ?_ | refine Ops.store 0 rfl rfl rfl rfl rfl (T.sizeOk rfl) rfl (Nat.le_of_ble_eq_true rfl) rfl rfl ?_ | refine Ops.store 1 rfl rfl rfl rfl rfl (T.sizeOk rfl) rfl (Nat.le_of_ble_eq_true rfl) rfl rfl ?_ | refine Ops.store 2 rfl rfl rfl rfl rfl (T.sizeOk rfl) rfl (Nat.le_of_ble_eq_true rfl) rfl rfl ?_ | refine Ops.store 3 rfl rfl rfl rfl rfl (T.sizeOk rfl) rfl (Nat.le_of_ble_eq_true rfl) rfl rfl ?_ | refine Ops.store 4 rfl rfl rfl rfl rfl (T.sizeOk rfl) rfl (Nat.le_of_ble_eq_true rfl) rfl rfl ?_ | refine Ops.store 5 rfl rfl rfl rfl rfl (T.sizeOk rfl) rfl (Nat.le_of_ble_eq_true rfl) rfl rfl ?_)
  refine Ops.call ((types_IsLayer s I4)) rfl (by decide) Proofs.Try.call44 rfl ?_
  rintro _ I5 hle5 rfl
  repeat (first | refine Run.seq ?_ | refine Run.region ?_ | refine Ops.nil ?_ | refine Ops.pure T rfl (by decide) rfl ?_ | refine Ops.store 0 rfl rfl rfl rfl rfl (T.sizeOk rfl) rfl (Nat.le_of_ble_eq_true rfl) rfl rfl ?_ | refine Ops.store 1 rfl rfl rfl rfl rfl (T.sizeOk rfl) rfl (Nat.le_of_ble_eq_true rfl) rfl rfl ?_ | refine Ops.store 2 rfl rfl rfl rfl rfl (T.sizeOk rfl) rfl (Nat.le_of_ble_eq_true rfl) rfl rfl ?_ | refine Ops.store 3 rfl rfl rfl rfl rfl (T.sizeOk rfl) rfl (Nat.le_of_ble_eq_true rfl) rfl rfl ?_ | refine Ops.store 4 rfl rfl rfl rfl rfl (T.sizeOk rfl) rfl (Nat.le_of_ble_eq_true rfl) rfl rfl ?_ | refine Ops.store 5 rfl rfl rfl rfl rfl (T.sizeOk rfl) rfl (Nat.le_of_ble_eq_true rfl) rfl rfl ?_)
  refine Ops.call ((types_IsSchema1 s I5)) rfl (by decide) Proofs.Try.call45 rfl ?_
  rintro _ I6 hle6 rfl
  refine Ops.buildL bd34 rfl (by decide) rfl rfl ?_
  repeat (first | refine Run.seq ?_ | refine Run.region ?_ | refine Ops.nil ?_ | refine Ops.pure T rfl (by decide) rfl ?_ | refine Ops.store 0 rfl rfl rfl rfl rfl (T.sizeOk rfl) rfl (Nat.le_of_ble_eq_true rfl) rfl rfl ?_ | refine Ops.store 1 rfl rfl rfl rfl rfl (T.sizeOk rfl) rfl (Nat.le_of_ble_eq_true rfl) rfl rfl ?_ | refine Ops.store 2 rfl rfl rfl rfl rfl (T.sizeOk rfl) rfl (Nat.le_of_ble_eq_true rfl) rfl rfl ?_ | refine Ops.store 3 rfl rfl rfl rfl rfl (T.sizeOk rfl) rfl (Nat.le_of_ble_eq_true rfl) rfl rfl ?_ | refine Ops.store 4 rfl rfl rfl rfl rfl (T.sizeOk rfl) rfl (Nat.le_of_ble_eq_true rfl) rfl rfl ?_ | refine Ops.store 5 rfl rfl rfl rfl rfl (T.sizeOk rfl) rfl (Nat.le_of_ble_eq_true rfl) rfl rfl ?_)
  refine Run.retC T 0 (by rw [hCf]; exact Proofs.Try.func15) Proofs.Try.results15 rfl rfl rfl rfl rfl rfl (hR _ _ _ ?_)
  exact ⟨rfl, rfl⟩
end Go.V
