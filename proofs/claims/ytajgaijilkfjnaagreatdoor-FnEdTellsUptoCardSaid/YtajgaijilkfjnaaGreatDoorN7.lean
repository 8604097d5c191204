/-
 Calls of the program reckoned: the inverse of one number, in stages.
-/
import Derived.Test.YtajgaijilkfjnaaGreatDoorN3
set_option linter.unusedVariables false
set_option linter.unusedSimpArgs false
namespace Go.Eng
open Go Go.RowKit Go.Proofs
noncomputable section
set_option maxRecDepth 1000000
theorem st11 (k : Ek -> Sx -> T) : evI lb75 iv11 k = k .n iv12 := by kernel_rfl
theorem st12 (k : Ek -> Sx -> T) : evI lb75 iv12 k = k .n iv13 := by kernel_rfl
theorem st13 (k : Ek -> Sx -> T) : evI lb75 iv13 k = k (.e 0) iv14 := by kernel_rfl
end
end Go.Eng
