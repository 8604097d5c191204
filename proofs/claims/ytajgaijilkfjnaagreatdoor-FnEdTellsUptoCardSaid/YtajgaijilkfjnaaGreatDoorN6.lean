/-
 Calls of the program reckoned: the inverse of one number, in stages.
-/
import Derived.Test.YtajgaijilkfjnaaGreatDoorN3
set_option linter.unusedVariables false
set_option linter.unusedSimpArgs false
namespace Go.Eng
open Go Go.RowKit Go.Proofs
noncomputable section
set_option maxRecDepth 1000000
theorem st8 (k : Ek -> Sx -> T) : evI lb75 iv8 k = k .n iv9 := by kernel_rfl
theorem st9 (k : Ek -> Sx -> T) : evI lb75 iv9 k = k .n iv10 := by kernel_rfl
theorem st10 (k : Ek -> Sx -> T) : evI lb75 iv10 k = k .n iv11 := by kernel_rfl
end
end Go.Eng
