/-
  A summary of the library, at this program: which number stands where.
-/
import Derived.Shelf.Sort.Plain
import Derived.Test.YtmdpfceigmimhaaProg
import Derived.KernelRfl
namespace Go.V
open Go.Shelf Go.Proofs
set_option linter.unusedVariables false
set_option maxRecDepth 100000
def ren192 : Go.Shelf.Ren := ⟨fun | 125 => 93 | 128 => 103 | 129 => 104 | 190 => 91 | 192 => 88 | 258 => 92 | 302 => 94 | 303 => 95 | 304 => 96 | 305 => 97 | 306 => 98 | 307 => 99 | 308 => 100 | 309 => 101 | 310 => 102 | 329 => 106 | 330 => 107 | 333 => 105 | 334 => 108 | 335 => 109 | 336 => 110 | 344 => 111 | n => n, fun | 0 => 0 | 3 => 3 | 4 => 4 | 5 => 5 | 9 => 9 | 31 => 30 | 46 => 57 | 51 => 155 | 53 => 157 | 131 => 152 | 182 => 147 | 183 => 148 | 218 => 158 | 222 => 162 | 228 => 164 | 229 => 165 | n => n, fun n => n⟩
theorem lays192 : Lays.n192 Proofs.Try.prog ren192 := {
  mixed := by kernel_rfl
  f125 := Proofs.Try.func93.trans (congrArg some (by kernel_rfl))
  f128 := Proofs.Try.func103.trans (congrArg some (by kernel_rfl))
  f129 := Proofs.Try.func104.trans (congrArg some (by kernel_rfl))
  f190 := Proofs.Try.func91.trans (congrArg some (by kernel_rfl))
  f192 := Proofs.Try.func88.trans (congrArg some (by kernel_rfl))
  f258 := Proofs.Try.func92.trans (congrArg some (by kernel_rfl))
  f302 := Proofs.Try.func94.trans (congrArg some (by kernel_rfl))
  f303 := Proofs.Try.func95.trans (congrArg some (by kernel_rfl))
  f304 := Proofs.Try.func96.trans (congrArg some (by kernel_rfl))
  f305 := Proofs.Try.func97.trans (congrArg some (by kernel_rfl))
  f306 := Proofs.Try.func98.trans (congrArg some (by kernel_rfl))
  f307 := Proofs.Try.func99.trans (congrArg some (by kernel_rfl))
  f308 := Proofs.Try.func100.trans (congrArg some (by kernel_rfl))
  f309 := Proofs.Try.func101.trans (congrArg some (by kernel_rfl))
  f310 := Proofs.Try.func102.trans (congrArg some (by kernel_rfl))
  f329 := Proofs.Try.func106.trans (congrArg some (by kernel_rfl))
  f330 := Proofs.Try.func107.trans (congrArg some (by kernel_rfl))
  f333 := Proofs.Try.func105.trans (congrArg some (by kernel_rfl))
  f334 := Proofs.Try.func108.trans (congrArg some (by kernel_rfl))
  f335 := Proofs.Try.func109.trans (congrArg some (by kernel_rfl))
  f336 := Proofs.Try.func110.trans (congrArg some (by kernel_rfl))
  f344 := Proofs.Try.func111.trans (congrArg some (by kernel_rfl))
  t0 := Proofs.Try.underlying0
  a0 := Proofs.Try.isAgg0
  z0 := Proofs.Try.sizeOf0
  v0 := Proofs.Try.zeroValue0
  t3 := Proofs.Try.underlying3
  a3 := Proofs.Try.isAgg3
  z3 := Proofs.Try.sizeOf3
  v3 := Proofs.Try.zeroValue3
  t4 := Proofs.Try.underlying4
  a4 := Proofs.Try.isAgg4
  z4 := Proofs.Try.sizeOf4
  v4 := Proofs.Try.zeroValue4
  t5 := Proofs.Try.underlying5
  a5 := Proofs.Try.isAgg5
  z5 := Proofs.Try.sizeOf5
  v5 := Proofs.Try.zeroValue5
  t9 := Proofs.Try.underlying9
  a9 := Proofs.Try.isAgg9
  z9 := Proofs.Try.sizeOf9
  v9 := Proofs.Try.zeroValue9
  t31 := Proofs.Try.underlying30
  a31 := Proofs.Try.isAgg30
  z31 := Proofs.Try.sizeOf30
  v31 := Proofs.Try.zeroValue30
  t46 := Proofs.Try.underlying57
  a46 := Proofs.Try.isAgg57
  z46 := Proofs.Try.sizeOf57
  v46 := Proofs.Try.zeroValue57
  t51 := Proofs.Try.underlying155
  a51 := Proofs.Try.isAgg155
  z51 := Proofs.Try.sizeOf155
  v51 := Proofs.Try.zeroValue155
  t53 := Proofs.Try.underlying157
  a53 := Proofs.Try.isAgg157
  z53 := Proofs.Try.sizeOf157
  v53 := Proofs.Try.zeroValue157
  t131 := Proofs.Try.underlying152
  a131 := Proofs.Try.isAgg152
  z131 := Proofs.Try.sizeOf152
  v131 := Proofs.Try.zeroValue152
  t182 := Proofs.Try.underlying147
  a182 := Proofs.Try.isAgg147
  z182 := Proofs.Try.sizeOf147
  v182 := Proofs.Try.zeroValue147
  t183 := Proofs.Try.underlying148
  a183 := Proofs.Try.isAgg148
  z183 := Proofs.Try.sizeOf148
  v183 := Proofs.Try.zeroValue148
  t218 := Proofs.Try.underlying158
  a218 := Proofs.Try.isAgg158
  z218 := Proofs.Try.sizeOf158
  v218 := Proofs.Try.zeroValue158
  t222 := Proofs.Try.underlying162
  a222 := Proofs.Try.isAgg162
  z222 := Proofs.Try.sizeOf162
  v222 := Proofs.Try.zeroValue162
  t228 := Proofs.Try.underlying164
  a228 := Proofs.Try.isAgg164
  z228 := Proofs.Try.sizeOf164
  v228 := Proofs.Try.zeroValue164
  t229 := Proofs.Try.underlying165
  a229 := Proofs.Try.isAgg165
  z229 := Proofs.Try.sizeOf165
  v229 := Proofs.Try.zeroValue165 }
end Go.V
