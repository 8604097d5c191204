/-
 Calls of the program reckoned: the inverse of one number, in stages.
-/
import Derived.Test.YtajgaijilkfjnaaGreatDoorN3
set_option linter.unusedVariables false
set_option linter.unusedSimpArgs false
namespace Go.Eng
open Go Go.RowKit Go.Proofs
noncomputable section
set_option maxRecDepth 1000000
theorem st0 (t1 t2 : Code) (k : Ek -> Sx -> T) : evI (pre75 t1 t2) s75 k = evI t1 iv1 (fun e s' => match e with | .n => evI t2 s' k | e => k e s') := by kernel_rfl
theorem st1 (k : Ek -> Sx -> T) : evI lb75 iv1 k = k .n iv2 := by kernel_rfl
theorem st2 (k : Ek -> Sx -> T) : evI lb75 iv2 k = k .n iv3 := by kernel_rfl
theorem st3 (k : Ek -> Sx -> T) : evI lb75 iv3 k = k .n iv4 := by kernel_rfl
theorem st4 (k : Ek -> Sx -> T) : evI lb75 iv4 k = k .n iv5 := by kernel_rfl
end
end Go.Eng
