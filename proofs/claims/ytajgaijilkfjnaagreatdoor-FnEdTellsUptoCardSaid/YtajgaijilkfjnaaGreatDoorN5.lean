/-
 Calls of the program reckoned: the inverse of one number, in stages.
-/
import Derived.Test.YtajgaijilkfjnaaGreatDoorN3
set_option linter.unusedVariables false
set_option linter.unusedSimpArgs false
namespace Go.Eng
open Go Go.RowKit Go.Proofs
noncomputable section
set_option maxRecDepth 1000000
theorem st5 (k : Ek -> Sx -> T) : evI lb75 iv5 k = k .n iv6 := by kernel_rfl
theorem st6 (k : Ek -> Sx -> T) : evI lb75 iv6 k = k .n iv7 := by kernel_rfl
theorem st7 (k : Ek -> Sx -> T) : evI lb75 iv7 k = k .n iv8 := by kernel_rfl
end
end Go.Eng
