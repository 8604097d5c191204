/-
 The law: the walk through laws.FnEdTells and the plain reckoning at the curve.
-/
import Derived.Test.YtajgaijilkfjnaaGreatDoorRows
import Derived.JoinedCond
set_option linter.unusedVariables false
set_option linter.unusedSimpArgs false
namespace Go.Proofs.YtajgaijilkfjnaaGreatDoor
open Go Go.ChangeShapes Go.WideShapes Go.ChangeAt
set_option maxRecDepth 100000
theorem said_c2 : joinedFacts Tryz.pinned.checked.prog 3 Tryz.f3 (Rows.OpenSpec.upto Rows.fnEdTellsSpec).bare Rows.fnEdTellsUptoRow = true := by kernel_rfl
end Go.Proofs.YtajgaijilkfjnaaGreatDoor
